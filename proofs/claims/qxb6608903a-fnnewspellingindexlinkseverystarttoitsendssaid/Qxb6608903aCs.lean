/-
  zzCmpStart (29).
-/
import Derived.Test.Qxb6608903aDp
import Derived.Test.Qxb6608903aPd
namespace Go.Proofs.Qxb6608903a.CmpW
open Go.RowKit Plain Mem Go.Sort SortW
set_option linter.unusedVariables false

/-- Texts, each in a block of its own. -/
structure TB (w : World) (b : Nat) (T : List (List Int)) (G C : Nat → Nat) : Prop where
  cell : ∀ j, j < T.length → w.cell? ⟨b, j, none⟩ = some (.slice (some ⟨G j, 0, none⟩) (tx T j).length (C j))
  cap : ∀ j, j < T.length → (tx T j).length ≤ C j
  runes : ∀ j, j < T.length → ∀ i, i < (tx T j).length → w.cell? ⟨G j, i, none⟩ = some (.int .i32 (rn (tx T j) i))

theorem TB.same {w w' : World} {b : Nat} {T : List (List Int)} {G C : Nat → Nat} (h : TB w b T G C) (hb : Below w.heap.size w w') : TB w' b T G C :=
  ⟨fun j hj => by rw [hb.cell (old_of (h.cell j hj))]; exact h.cell j hj, h.cap, fun j hj i hi => by rw [hb.cell (old_of (h.runes j hj i hi))]; exact h.runes j hj i hi⟩

theorem TB.rc {w : World} {b : Nat} {T : List (List Int)} {G C : Nat → Nat} (h : TB w b T G C) {j l : Nat} (hj : j < T.length) : RC w (some ⟨G j, 0, none⟩) ((tx T j).take l) :=
  .inr ⟨G j, 0, rfl, fun i hi => by
    rw [List.length_take] at hi
    rw [Nat.zero_add, h.runes j hj i (by omega)]
    unfold rn
    rw [List.getD_eq_getElem?_getD, List.getD_eq_getElem?_getD, List.getElem?_take_of_lt (by omega)]⟩

/-- Starts in order: the shorter ahead, then by their characters. -/
def cmpS (u v : List Int) : Int := if u.length = v.length then cmpR u v else if u.length < v.length then -1 else 1

set_option maxHeartbeats 2000000 in
theorem cmpStart (w : World) (b cap : Nat) (T : List (List Int)) (G C : Nat → Nat) (x y la lb : Nat) (hx : x < T.length) (hy : y < T.length) (hla : la ≤ (tx T x).length) (hlb : lb ≤ (tx T y).length)
    (hlen : ∀ j, j < T.length → (tx T j).length ≤ 4194304) (hT : T.length ≤ 16777216) (h : TB w b T G C) :
    Calls Try.prog 29 #[.slice (some ⟨b, 0, none⟩) T.length cap, .agg #[.int .i64 x, .int .i64 la], .agg #[.int .i64 y, .int .i64 lb]] w fun e w' => e = .returned (.int .i64 (cmpS ((tx T x).take la) ((tx T y).take lb))) ∧ ∃ q os, w' = grow (w.drewN q) os := by
  have hbe : Below w.heap.size w ((w.alloc (.cells #[.int .i64 x, .int .i64 la] 73)).alloc (.cells #[.int .i64 y, .int .i64 lb] 73)) := ((Below.refl _ _).alloc (Nat.le_refl _) _).alloc (by simp) _
  have h2 := h.same hbe
  have c1 := h2.cell x hx
  have c2 := h2.cell y hy
  have b1 := h.cap x hx
  have b2 := h.cap y hy
  have e1 : ((tx T x).take la).length = la := by rw [List.length_take]; omega
  have e2 : ((tx T y).take lb).length = lb := by rw [List.length_take]; omega
  have l1 := hlen x hx
  have l2 := hlen y hy
  have HC := hid (fun n => cmpRunes (((w.alloc (.cells #[.int .i64 x, .int .i64 la] 73)).alloc (.cells #[.int .i64 y, .int .i64 lb] 73)).drewN n) (some ⟨G x, 0, none⟩) (some ⟨G y, 0, none⟩) (C x) (C y) ((tx T x).take la) ((tx T y).take lb) (by omega) (by omega) (h2.rc hx) (h2.rc hy))
  have eS : cmpS ((tx T x).take la) ((tx T y).take lb) = if la = lb then cmpR ((tx T x).take la) ((tx T y).take lb) else if la < lb then -1 else 1 := by unfold cmpS; rw [e1, e2]
  rw [eS]
  rw [e1, e2] at HC
  generalize cmpR ((tx T x).take la) ((tx T y).take lb) = r at *
  have x0 : (0 : Int) ≤ (x : Int) := Int.natCast_nonneg _
  have x1 : (x : Int) < (T.length : Int) := by omega
  have y0 : (0 : Int) ≤ (y : Int) := Int.natCast_nonneg _
  have y1 : (y : Int) < (T.length : Int) := by omega
  have m0 : (0 : Int) ≤ (la : Int) := Int.natCast_nonneg _
  have m1 : (la : Int) ≤ (C x : Int) := by omega
  have n0 : (0 : Int) ≤ (lb : Int) := Int.natCast_nonneg _
  have n1 : (lb : Int) ≤ (C y : Int) := by omega
  clear h h2 hbe eS e1 e2 hlen
  by_cases hl : la = lb
  · rw [if_pos hl]
    have hne : ((la : Int) != (lb : Int)) = false := by simp; omega
    have HL := hid hl
    clear hl
    go_enter Try.func29, Try.ntmps29
    go_wp2
    go_quiet ((go_at_call 39; exact Calls.quiet_of (HC.out _)))
    go_wp2
    go_ret
    exact ⟨rfl, nq, #[.cells #[.int .i64 x, .int .i64 la] 73, .cells #[.int .i64 y, .int .i64 lb] 73], by simp [grow]; rfl⟩
  · rw [if_neg hl]
    have hne : ((la : Int) != (lb : Int)) = true := by simp; omega
    by_cases hlt : la < lb
    · rw [if_pos hlt]
      go_enter Try.func29, Try.ntmps29
      go_wp2
      go_ret
      exact ⟨rfl, 0, #[.cells #[.int .i64 x, .int .i64 la] 73, .cells #[.int .i64 y, .int .i64 lb] 73], by simp [grow]; rfl⟩
    · rw [if_neg hlt]
      go_enter Try.func29, Try.ntmps29
      go_wp2
      go_ret
      exact ⟨rfl, 0, #[.cells #[.int .i64 x, .int .i64 la] 73, .cells #[.int .i64 y, .int .i64 lb] 73], by simp [grow]; rfl⟩

end Go.Proofs.Qxb6608903a.CmpW
