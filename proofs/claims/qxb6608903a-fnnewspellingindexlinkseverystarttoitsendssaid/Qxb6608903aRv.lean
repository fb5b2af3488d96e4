/-
  slices.Reverse (36) at a row of runes of one's own.
-/
import Derived.Test.Qxb6608903aCl
import Derived.Test.Qxb6608903aUd
namespace Go.Proofs.Qxb6608903a.Cl
open Go.RowKit Plain Mem Go.Sort CmpW
set_option linter.unusedVariables false

theorem rn_reverse (t : List Int) {c : Nat} (h : c < t.length) : rn t.reverse c = rn t (t.length - 1 - c) := by
  unfold rn
  rw [List.getD_eq_getElem?_getD, List.getD_eq_getElem?_getD, List.getElem?_reverse h]

/-- The row when i from each end have been turned. -/
def rvF (t : List Int) (i c k : Nat) : Value := .int .i32 (if c < i ∨ t.length - i ≤ c then rn t (t.length - 1 - c) else rn t c)

theorem rv_swap {w : World} {g cap i : Nat} {t : List Int} (h : OwnK w 21 1 g cap t.length (rvF t i)) (hi : i < t.length - 1 - i) :
    OwnK ((w.setCell ⟨g, i, none⟩ (.int .i32 (rn t (t.length - 1 - i)))).setCell ⟨g, t.length - 1 - i, none⟩ (.int .i32 (rn t i))) 21 1 g cap t.length (rvF t (i + 1)) := by
  have h1 := h.set (c := i) (i := 0) (by omega) (by decide) (.int .i32 (rn t (t.length - 1 - i)))
  have h2 := h1.set (c := t.length - 1 - i) (i := 0) (by omega) (by decide) (.int .i32 (rn t i))
  rw [Nat.mul_one, Nat.mul_one, Nat.add_zero, Nat.add_zero] at h2
  refine h2.congr fun c k hc hk => ?_
  obtain rfl : k = 0 := by omega
  unfold rvF
  by_cases e1 : c = t.length - 1 - i
  · rw [if_pos ⟨e1, rfl⟩, if_pos (by omega), e1, show t.length - 1 - (t.length - 1 - i) = i by omega]
  · rw [if_neg (by omega)]
    by_cases e2 : c = i
    · rw [if_pos ⟨e2, rfl⟩, if_pos (by omega), e2]
    · rw [if_neg (by omega)]
      by_cases e3 : c < i ∨ t.length - i ≤ c
      · rw [if_pos e3, if_pos (by omega)]
      · rw [if_neg e3, if_neg (by omega)]

theorem gr_drew {w w1 : World} {row : Option Nat} (h : w.grownBy w1 row) : w.grownBy w1.drew row := ⟨h.os, h.tape, h.output, h.size, h.block⟩

/-- What Reverse leaves. -/
def Rev (w : World) (g cap : Nat) (t : List Int) (e : Ending) (w' : World) : Prop :=
  e = .returned (.tuple #[]) ∧ OwnK w' 21 1 g cap t.length (runF t.reverse) ∧ w.grownBy w' (some g)

set_option maxHeartbeats 2000000 in
set_option maxRecDepth 100000 in
theorem reverse_any (w : World) (g cap : Nat) (t : List Int) (ht : t.length ≤ 16777216) (h : OwnK w 21 1 g cap t.length (runF t)) :
    Calls Try.prog 36 #[.slice (some ⟨g, 0, none⟩) t.length cap] w fun e w' => Rev w g cap t e w' := by
  have H0 : Hid (OwnK w 21 1 g cap t.length (rvF t 0)) := h.congr fun c k hc hk => by unfold runF rvF; rw [if_neg (by omega)]
  clear h
  go_enter Try.func36, Try.ntmps36
  go_wp2
  go_loopw [2, 3] (fun vi vj wr => ∃ i : Nat, vi = .int .i64 i ∧ vj = .int .i64 ((t.length : Int) - 1 - i) ∧ 2 * i ≤ t.length + 1 ∧ OwnK wr 21 1 g cap t.length (rvF t i) ∧ w.grownBy wr (some g)) (fun vi _ _ => t.length + 1 - (intOf vi).toNat)
  case atStart => exact ⟨0, rfl, by congr 1; omega, by omega, H0.out, U.grown_refl _ _⟩
  case round =>
    clear H0
    obtain ⟨i, rfl, rfl, hi2, hown, hgr⟩ := hrel
    by_cases hij : i < t.length - 1 - i
    · obtain ⟨j, hj⟩ : ∃ j, j = t.length - 1 - i := ⟨_, rfl⟩
      have ej : ((t.length : Int) - 1 - (i : Int)) = (j : Int) := by omega
      have c1 : wr.cell? ⟨g, i, none⟩ = some (.int .i32 (rn t i)) := by
        have := hown.cell (c := i) (i := 0) (by omega) (by decide)
        rw [Nat.mul_one, Nat.add_zero] at this
        unfold rvF at this
        rw [if_neg (by omega)] at this
        exact this
      have c2 : wr.cell? ⟨g, j, none⟩ = some (.int .i32 (rn t j)) := by
        have := hown.cell (c := j) (i := 0) (by omega) (by decide)
        rw [Nat.mul_one, Nat.add_zero] at this
        unfold rvF at this
        rw [if_neg (by omega)] at this
        exact this
      have f1 : wr.frozen? ⟨g, i, none⟩ = false := hown.frozen _
      have f2 : wr.frozen? ⟨g, j, none⟩ = false := hown.frozen _
      have HSW := hid (rv_swap hown (by omega))
      rw [← hj] at HSW
      have HGR := hid hgr
      have hijz : (i : Int) < (j : Int) := by omega
      have hjl : (j : Int) < (t.length : Int) := by omega
      have HJ := hid hj
      clear hown hgr hj
      rw [ej]
      clear ej
      go_wp2
      go_region
      all_goals go_wp2
      refine ⟨⟨i + 1, by go_num, by have := HJ.out; congr 1; omega, by have := HJ.out; omega, HSW.out, gr_drew (U.grown_set (U.grown_set HGR.out _ _) _ _)⟩, by have := HJ.out; simp [intOf]; omega⟩
    · have hijz : ¬ (i : Int) < (t.length : Int) - 1 - (i : Int) := by omega
      have HF : Hid (OwnK wr 21 1 g cap t.length (runF t.reverse)) := hown.congr fun c k hc hk => by
        unfold runF rvF
        rw [rn_reverse t hc]
        by_cases e : c < i ∨ t.length - i ≤ c
        · rw [if_pos e]
        · rw [if_neg e, show t.length - 1 - c = c by omega]
      have HGR := hid hgr
      clear hown hgr
      go_wp2
      go_end0
      exact ⟨rfl, HF.out, HGR.out⟩

end Go.Proofs.Qxb6608903a.Cl
