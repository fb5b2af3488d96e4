/-
  slices.Sort over a uint64: what swaps do, plainly; the row in memory; cmp.Less (61), cmp.isNaN (72).
-/
import Derived.Test.Qxb6608903aRows
import Derived.Test.Qxb6608903aRowK
import Derived.Test.Qxb6608903aSi
import Derived.WalkKit
import Derived.BigGuard
import Derived.BigCall
import Derived.CellFam
import Derived.Deep.Draws
import Derived.Deep.QuietTactic
import Derived.BigQuiet
namespace Go.Proofs.Qxb6608903a.U
open Go.RowKit Mem Go.Sort
set_option linter.unusedVariables false

theorem hid {p : Prop} (h : p) : Hid p := h

/-- Two numbers change places. -/
def swp (R : Nat → Int) (i j : Nat) : Nat → Int := fun k => if k = i then R j else if k = j then R i else R k

/-- R' comes from R by swaps inside lo .. hi. -/
inductive Sw (lo hi : Nat) (R : Nat → Int) : (Nat → Int) → Prop
  | refl : Sw lo hi R R
  | step {R' : Nat → Int} {i j : Nat} : Sw lo hi R R' → lo ≤ i → i < hi → lo ≤ j → j < hi → Sw lo hi R (swp R' i j)

theorem Sw.trans {lo hi : Nat} {R S T : Nat → Int} (h : Sw lo hi R S) (k : Sw lo hi S T) : Sw lo hi R T := by
  induction k with
  | refl => exact h
  | step _ h1 h2 h3 h4 ih => exact .step ih h1 h2 h3 h4

theorem Sw.mono {lo hi lo' hi' : Nat} {R S : Nat → Int} (h : Sw lo hi R S) (h1 : lo' ≤ lo) (h2 : hi ≤ hi') : Sw lo' hi' R S := by
  induction h with
  | refl => exact .refl
  | step _ a b c d ih => exact .step ih (by omega) (by omega) (by omega) (by omega)

theorem Sw.out {lo hi : Nat} {R S : Nat → Int} (h : Sw lo hi R S) {k : Nat} (hk : k < lo ∨ hi ≤ k) : S k = R k := by
  induction h with
  | refl => rfl
  | step _ a b c d ih => unfold swp; rw [if_neg (by omega), if_neg (by omega), ih]

/-- What holds of all numbers inside holds of them behind the swaps. -/
theorem Sw.all {lo hi : Nat} {R S : Nat → Int} (h : Sw lo hi R S) {P : Int → Prop} (hP : ∀ k, lo ≤ k → k < hi → P (R k)) : ∀ k, lo ≤ k → k < hi → P (S k) := by
  induction h with
  | refl => exact hP
  | step _ a b c d ih =>
    intro k h1 h2
    unfold swp
    split
    · exact ih _ c d
    · split
      · exact ih _ a b
      · exact ih _ h1 h2

/-- The numbers from lo on, k of them. -/
def sgI (R : Nat → Int) (lo k : Nat) : List Int := (List.range k).map fun i => R (lo + i)

theorem sgI_swp (R : Nat → Int) {lo hi i j : Nat} (h1 : lo ≤ i) (h2 : i < hi) (h3 : lo ≤ j) (h4 : j < hi) : (sgI (swp R i j) lo (hi - lo)).Perm (sgI R lo (hi - lo)) := by
  have e : sgI (swp R i j) lo (hi - lo) = ((List.range (hi - lo)).map fun k => if lo + k = i then j - lo else if lo + k = j then i - lo else k).map fun k => R (lo + k) := by
    unfold sgI
    rw [List.map_map]
    apply List.map_congr_left
    intro k hk
    unfold swp
    simp only [Function.comp]
    split
    · rw [show lo + (j - lo) = j by omega]
    · split
      · rw [show lo + (i - lo) = i by omega]
      · rfl
  rw [e]
  unfold sgI
  refine List.Perm.map _ ((List.perm_ext_iff_of_nodup ?_ List.nodup_range).2 fun x => ?_)
  · refine List.Pairwise.map _ (S := (· ≠ ·)) (R := (· ≠ ·)) ?_ List.nodup_range
    intro a b hab
    split <;> split <;> (try split) <;> (try split) <;> omega
  · rw [List.mem_map, List.mem_range]
    constructor
    · rintro ⟨a, ha, rfl⟩
      have := List.mem_range.1 ha
      split
      · omega
      · split <;> omega
    · intro hx
      by_cases e1 : lo + x = j
      · exact ⟨i - lo, List.mem_range.2 (by omega), by rw [if_pos (by omega)]; omega⟩
      · by_cases e2 : lo + x = i
        · exact ⟨j - lo, List.mem_range.2 (by omega), by split; omega; rw [if_pos (by omega)]; omega⟩
        · exact ⟨x, List.mem_range.2 hx, by rw [if_neg (by omega), if_neg (by omega)]⟩

theorem Sw.perm {lo hi : Nat} {R S : Nat → Int} (h : Sw lo hi R S) : (sgI S lo (hi - lo)).Perm (sgI R lo (hi - lo)) := by
  induction h with
  | refl => exact .refl _
  | step _ a b c d ih => exact (sgI_swp _ a b c d).trans ih

/-- In order from lo to hi. -/
def Srtd (R : Nat → Int) (lo hi : Nat) : Prop := ∀ i j, lo ≤ i → i < j → j < hi → R i ≤ R j

/-! ### In memory -/

def rowU (R : Nat → Int) (i : Nat) : Value := .int .u64 (R i)

/-- The row in w, which grew out of w0 with no change but in the row's block. -/
structure UR (w0 w : World) (g N : Nat) (R : Nat → Int) : Prop where
  row : w.rowIs g 50 N (rowU R)
  gr : w0.grownBy w (some g)

theorem grown_refl (w : World) (row : Option Nat) : w.grownBy w row := ⟨rfl, rfl, rfl, Nat.le_refl _, fun _ _ _ => rfl⟩

theorem UR.start {w : World} {g N : Nat} {R : Nat → Int} (h : w.rowIs g 50 N (rowU R)) : UR w w g N R := ⟨h, grown_refl _ _⟩

theorem UR.drewN {w0 w : World} {g N : Nat} {R : Nat → Int} (h : UR w0 w g N R) (q : Nat) : UR w0 (w.drewN q) g N R :=
  ⟨h.row, h.gr.os, h.gr.tape, h.gr.output, h.gr.size, h.gr.block⟩

theorem UR.trans {w0 w1 w2 : World} {g N : Nat} {R S : Nat → Int} (h : UR w0 w1 g N R) (k : UR w1 w2 g N S) : UR w0 w2 g N S := ⟨k.row, h.gr.trans k.gr⟩

theorem UR.cell {w0 w : World} {g N : Nat} {R : Nat → Int} (h : UR w0 w g N R) (off : Nat) (t : Nat) (ht : off + t < N) : w.cell? ⟨g, off + t, none⟩ = some (.int .u64 (R (off + t))) := h.row.cell ht

theorem UR.frozen {w0 w : World} {g N : Nat} {R : Nat → Int} (h : UR w0 w g N R) (t : Nat) : w.frozen? ⟨g, t, none⟩ = false := h.row.frozen t

theorem grown_set {w0 w : World} {g : Nat} (h : w0.grownBy w (some g)) (i : Nat) (v : Value) : w0.grownBy (w.setCell ⟨g, i, none⟩ v) (some g) :=
  ⟨h.os, h.tape, h.output, by simpa using h.size, fun k hk hne => by rw [Below.heap_setCell _ _ _ _ (by intro e; exact hne (by simp [e]))]; exact h.block k hk hne⟩

/-- A swap. -/
theorem UR.swap {w0 w : World} {g N : Nat} {R : Nat → Int} (h : UR w0 w g N R) (i j : Nat) : UR w0 ((w.setCell ⟨g, i, none⟩ (.int .u64 (R j))).setCell ⟨g, j, none⟩ (.int .u64 (R i))) g N (swp R i j) :=
  ⟨((h.row.set i _).set j _).congr (fun k hk => by
    unfold rowU swp
    by_cases e : k = j
    · subst e
      by_cases e2 : k = i
      · subst e2; simp
      · simp [e2]
    · by_cases e2 : k = i
      · subst e2; simp [e]
      · simp [e, e2]), grown_set (grown_set h.gr _ _) _ _⟩

set_option maxHeartbeats 1000000 in
theorem isNaN (x : Int) (w : World) : Calls Try.prog 72 #[.int .u64 x] w fun e w' => e = .returned (.bool false) ∧ w' = w := by
  go_enter Try.func72, Try.ntmps72
  go_wp2
  go_ret
  exact ⟨by simp, rfl⟩

/-- Less, as a truth value. -/
def ltU (x y : Int) : Bool := decide (x < y)

theorem ltU_true {x y : Int} (h : ltU x y = true) : x < y := of_decide_eq_true h
theorem ltU_false {x y : Int} (h : ltU x y = false) : y ≤ x := by have := of_decide_eq_false h; omega

set_option maxHeartbeats 1000000 in
theorem less (x y : Int) (w : World) : Calls Try.prog 61 #[.int .u64 x, .int .u64 y] w fun e w' => e = .returned (.bool (ltU x y)) ∧ w' = w := by
  go_enter Try.func61, Try.ntmps61
  go_wp2_with (go_at_call 72; refine (isNaN _ _).mono ?_; rintro e w' ⟨rfl, rfl⟩)
  go_ret
  exact ⟨rfl, rfl⟩

end Go.Proofs.Qxb6608903a.U
