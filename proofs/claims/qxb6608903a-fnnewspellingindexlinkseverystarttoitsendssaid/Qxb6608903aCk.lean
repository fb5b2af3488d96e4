/-
  zzOrder.cmp (30) at kinds 1 and 2.
-/
import Derived.Test.Qxb6608903aCs
namespace Go.Proofs.Qxb6608903a.CmpW
open Go.RowKit Plain Mem Go.Sort SortW
set_option linter.unusedVariables false

/-- A row of pairs of numbers: starts (text, length); pairs (node, link). -/
def PR (w : World) (g n : Nat) (k2 : IntKind) (A : Nat → Nat) (B : Nat → Int) : Prop := ∀ x, x < n → w.cell? ⟨g, x * 2, none⟩ = some (.int .i64 (A x : Nat)) ∧ w.cell? ⟨g, x * 2 + 1, none⟩ = some (.int k2 (B x))

theorem PR.same {w w' : World} {g n : Nat} {k2 : IntKind} {A : Nat → Nat} {B : Nat → Int} (h : PR w g n k2 A B) (hb : Below w.heap.size w w') : PR w' g n k2 A B :=
  fun x hx => ⟨by rw [hb.cell (old_of (h x hx).1)]; exact (h x hx).1, by rw [hb.cell (old_of (h x hx).2)]; exact (h x hx).2⟩

theorem grow_bel (w : World) (n : Nat) (os : Array Obj) : Below w.heap.size w (grow (w.drewN n) os) := grow_below (Below.refl _ _) (Nat.le_refl _) n os

set_option maxHeartbeats 4000000 in
theorem cmp1 (w : World) (po b cap sb sn scap : Nat) (T : List (List Int)) (G C A L : Nat → Nat) (x y : Nat) (hx : x < sn) (hy : y < sn) (hA : ∀ j, j < sn → A j < T.length ∧ L j ≤ (tx T (A j)).length) (hlen : ∀ j, j < T.length → (tx T j).length ≤ 4194304) (hT : T.length ≤ 16777216)
    (h0 : w.cell? ⟨po, 0, none⟩ = some (.int .i64 1)) (h1 : w.cell? ⟨po, 1, none⟩ = some (.slice (some ⟨b, 0, none⟩) T.length cap)) (h2 : w.cell? ⟨po, 2, none⟩ = some (.slice (some ⟨sb, 0, none⟩) sn scap)) (h : TB w b T G C) (hs : PR w sb sn .i64 A (fun j => (L j : Nat))) :
    Calls Try.prog 30 #[.pointer (some ⟨po, 0, none⟩), .int .i64 (x : Nat), .int .i64 (y : Nat)] w fun e w' => e = .returned (.int .i64 (cmpS ((tx T (A x)).take (L x)) ((tx T (A y)).take (L y)))) ∧ ∃ q os, w' = grow (w.drewN q) os := by
  obtain ⟨s1, s2⟩ := hs x hx
  obtain ⟨s3, s4⟩ := hs y hy
  have HC := hid (fun n os => cmpStart (grow (w.drewN n) os) b cap T G C (A x) (A y) (L x) (L y) (hA x hx).1 (hA y hy).1 (hA x hx).2 (hA y hy).2 hlen hT (h.same (grow_bel w n os)))
  generalize cmpS ((tx T (A x)).take (L x)) ((tx T (A y)).take (L y)) = r at *
  have g1 : ∀ n os, (grow (w.drewN n) os).cell? ⟨po, 1, none⟩ = _ := fun n os => cell_grown (old_of h1) h1 n os
  have g2 : ∀ n os, (grow (w.drewN n) os).cell? ⟨po, 2, none⟩ = _ := fun n os => cell_grown (old_of h2) h2 n os
  have g3 : ∀ n os, (grow (w.drewN n) os).cell? ⟨sb, x * 2, none⟩ = _ := fun n os => cell_grown (old_of s1) s1 n os
  have g4 : ∀ n os, (grow (w.drewN n) os).cell? ⟨sb, x * 2 + 1, none⟩ = _ := fun n os => cell_grown (old_of s2) s2 n os
  have g5 : ∀ n os, (grow (w.drewN n) os).cell? ⟨sb, y * 2, none⟩ = _ := fun n os => cell_grown (old_of s3) s3 n os
  have g6 : ∀ n os, (grow (w.drewN n) os).cell? ⟨sb, y * 2 + 1, none⟩ = _ := fun n os => cell_grown (old_of s4) s4 n os
  have mixed : Try.prog.follows .mixedOrders = true := by kernel_rfl
  have x0 : (0 : Int) ≤ (x : Int) := Int.natCast_nonneg _
  have x1 : (x : Int) < (sn : Int) := by omega
  have y0 : (0 : Int) ≤ (y : Int) := Int.natCast_nonneg _
  have y1 : (y : Int) < (sn : Int) := by omega
  clear h hs hA hlen s1 s2 s3 s4
  go_enter Try.func30, Try.ntmps30
  go_wp2
  go_quiet_grown ((go_at_call 29; exact Calls.grown_of (HC.out _ _)))
  go_wp2
  go_ret
  exact ⟨rfl, nq, osq, rfl⟩

/-- Pairs in order: by node, then by link. -/
def cmpP (a1 : Nat) (b1 : Int) (a2 : Nat) (b2 : Int) : Int := if a1 = a2 then (if b1 < b2 then -1 else if b2 < b1 then 1 else 0) else if a1 < a2 then -1 else 1

set_option maxHeartbeats 4000000 in
theorem cmp2 (w : World) (po sb sn scap : Nat) (A : Nat → Nat) (B : Nat → Int) (x y : Nat) (hx : x < sn) (hy : y < sn)
    (h0 : w.cell? ⟨po, 0, none⟩ = some (.int .i64 2)) (h3 : w.cell? ⟨po, 3, none⟩ = some (.slice (some ⟨sb, 0, none⟩) sn scap)) (hs : PR w sb sn .u64 A B) :
    Calls Try.prog 30 #[.pointer (some ⟨po, 0, none⟩), .int .i64 (x : Nat), .int .i64 (y : Nat)] w fun e w' => e = .returned (.int .i64 (cmpP (A x) (B x) (A y) (B y))) ∧ ∃ q os, w' = grow (w.drewN q) os := by
  obtain ⟨s1, s2⟩ := hs x hx
  obtain ⟨s3, s4⟩ := hs y hy
  clear hs
  generalize A x = a1 at *
  generalize B x = b1 at *
  generalize A y = a2 at *
  generalize B y = b2 at *
  have x0 : (0 : Int) ≤ (x : Int) := Int.natCast_nonneg _
  have x1 : (x : Int) < (sn : Int) := by omega
  have y0 : (0 : Int) ≤ (y : Int) := Int.natCast_nonneg _
  have y1 : (y : Int) < (sn : Int) := by omega
  have l1 : po < w.heap.size := old_of h3
  have l2 : sb < w.heap.size := old_of s3
  have hE : ∀ r : Int, ∃ q os, (w.alloc (.cells #[.int .i64 (a1 : Nat), .int .u64 b1] 58)).alloc (.cells #[.int .i64 (a2 : Nat), .int .u64 b2] 58) = grow (w.drewN q) os := fun r => ⟨0, #[.cells #[.int .i64 (a1 : Nat), .int .u64 b1] 58, .cells #[.int .i64 (a2 : Nat), .int .u64 b2] 58], by simp [grow]; rfl⟩
  have HE := hid (hE 0)
  clear hE
  unfold cmpP
  by_cases ha : a1 = a2
  · have hne : ((a1 : Int) != (a2 : Int)) = false := by simp; omega
    rw [if_pos ha]
    have HA := hid ha
    clear ha
    by_cases hb : b1 < b2
    · rw [if_pos hb]
      go_enter Try.func30, Try.ntmps30
      go_wp2
      go_ret
      exact ⟨rfl, HE.out⟩
    · rw [if_neg hb]
      by_cases hc : b2 < b1
      · rw [if_pos hc]
        go_enter Try.func30, Try.ntmps30
        go_wp2
        go_ret
        exact ⟨rfl, HE.out⟩
      · rw [if_neg hc]
        go_enter Try.func30, Try.ntmps30
        go_wp2
        go_ret
        exact ⟨rfl, HE.out⟩
  · have hne : ((a1 : Int) != (a2 : Int)) = true := by simp; omega
    rw [if_neg ha]
    by_cases hb : a1 < a2
    · rw [if_pos hb]
      go_enter Try.func30, Try.ntmps30
      go_wp2
      go_ret
      exact ⟨rfl, HE.out⟩
    · rw [if_neg hb]
      go_enter Try.func30, Try.ntmps30
      go_wp2
      go_ret
      exact ⟨rfl, HE.out⟩

end Go.Proofs.Qxb6608903a.CmpW
