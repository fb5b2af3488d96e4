/-
  The plain law on lines and their starts; the contracts of zzBytes (9, 15).
-/
import Derived.Test.Qxb6605878aOk
namespace Go.Proofs.Qxb6605878a.Line
open Go.RowKit
set_option linter.unusedVariables false

theorem sorted_of {f : Nat → Int} {n : Nat} (h : OkL f n) : ∀ i j, i < j → j < n → f i < f j := by
  intro i j
  induction j with
  | zero => omega
  | succ j ih =>
    intro hij hj
    have h1 := h.2.1 j hj
    by_cases e : i = j
    · rw [e]; exact h1
    · have := ih (by omega) (by omega); omega

theorem top_of {f : Nat → Int} {n : Nat} (h : OkL f n) (hb : ∀ j, j < n → f j ≤ 9223372036854775807) : ∀ j, j < n → 0 ≤ f j ∧ f j < 9223372036854775807 := by
  intro j hj
  refine ⟨h.1 j hj, ?_⟩
  have h1 := hb (n - 1) (by omega)
  have h2 := h.2.2 (by omega)
  by_cases e : j = n - 1
  · rw [e]; omega
  · have := sorted_of h j (n - 1) (by omega) (by omega); omega

theorem st_cases (f : Nat → Int) (n : Nat) (k : Int) : (clamp k n = 1 ∧ st f n k = 0) ∨ ∃ m, m < n ∧ clamp k n = m + 2 ∧ st f n k = f m + 1 := by
  unfold clamp st
  by_cases h1 : k ≤ 1 ∨ n = 0
  · left
    rw [if_pos h1]
    refine ⟨?_, rfl⟩
    split
    · rfl
    · split <;> omega
  · right
    rw [if_neg h1]
    by_cases h2 : k ≤ n + 1
    · refine ⟨k.toNat - 2, by omega, ?_, by rw [if_pos h2]⟩
      rw [if_neg (by omega), if_neg (by omega)]
      omega
    · refine ⟨n - 1, by omega, ?_, by rw [if_neg h2]⟩
      rw [if_neg (by omega), if_pos (by omega)]
      omega

theorem place_zero {f : Nat → Int} {n : Nat} (h : OkL f n) {p : Nat} (hp : Place f n 0 p) : p = 0 := by
  by_cases e : p = 0
  · exact e
  · have h1 := hp.2.1 0 (by omega)
    have h2 := h.1 0 (by have := hp.1; omega)
    omega

theorem place_next {f : Nat → Int} {n : Nat} (h : OkL f n) {p m : Nat} (hm : m < n) (hp : Place f n (f m + 1) p) : p = m + 1 := by
  obtain ⟨h1, h2, h3⟩ := hp
  by_cases a : p ≤ m
  · have := h3 m a hm; omega
  · by_cases b : m + 1 < p
    · have := h2 (m + 1) b
      have := h.2.1 m (by omega)
      omega
    · omega

theorem place_at {f : Nat → Int} {n : Nat} (h : OkL f n) {p m : Nat} (hm : m < n) (hp : Place f n (f m) p) : p = m := by
  obtain ⟨h1, h2, h3⟩ := hp
  by_cases a : p < m
  · have := h3 p (Nat.le_refl _) (by omega)
    have := sorted_of h p m a hm
    omega
  · by_cases b : m < p
    · have := h2 m b
      omega
    · omega

theorem place_start {f : Nat → Int} {n : Nat} (h : OkL f n) {k : Int} {p : Nat} (hp : Place f n (st f n k) p) : (p : Int) + 1 = clamp k n := by
  rcases st_cases f n k with ⟨e1, e2⟩ | ⟨m, hm, e1, e2⟩
  · rw [e2] at hp; rw [e1, place_zero h hp]; rfl
  · rw [e2] at hp; rw [e1, place_next h hm hp]; omega

set_option maxHeartbeats 400000 in
theorem bytes9 (a : Option Addr) (n cap : Nat) (k : Int) (w : World) (hn : n ≤ maxLen) :
    Calls Try.prog 9 #[.slice a n cap, .int .i64 k] w fun e w' => e = .returned (.bool (decide (n ≤ 1048576))) ∧ w' = w := by
  unfold maxLen at hn
  by_cases h : n ≤ 1048576
  · have h' : (n : Int) ≤ 1048576 := by omega
    go_enter Try.func9, Try.ntmps9
    go_wp2
    go_ret
    exact ⟨by simp [h], rfl⟩
  · have h' : (1048576 : Int) < n := by omega
    go_enter Try.func9, Try.ntmps9
    go_wp2
    go_ret
    exact ⟨by simp [h], rfl⟩

set_option maxHeartbeats 400000 in
theorem bytes15 (a : Option Addr) (n cap : Nat) (k l : Int) (w : World) (hn : n ≤ maxLen) :
    Calls Try.prog 15 #[.slice a n cap, .int .i64 k, .int .i64 l] w fun e w' => e = .returned (.bool (decide (n ≤ 1048576))) ∧ w' = w := by
  unfold maxLen at hn
  by_cases h : n ≤ 1048576
  · have h' : (n : Int) ≤ 1048576 := by omega
    go_enter Try.func15, Try.ntmps15
    go_wp2
    go_ret
    exact ⟨by simp [h], rfl⟩
  · have h' : (1048576 : Int) < n := by omega
    go_enter Try.func15, Try.ntmps15
    go_wp2
    go_ret
    exact ⟨by simp [h], rfl⟩

theorem IntsAt.below {w w' : World} {a : Option Addr} {n : Nat} {f : Nat → Int} (h : IntsAt w a n f) (hb : Below w.heap.size w w') : IntsAt w' a n f := by
  rcases h with h | ⟨b, off, ha, hc⟩
  · exact .inl h
  · exact .inr ⟨b, off, ha, fun j hj => by rw [hb.cell (old_of (hc j hj))]; exact hc j hj⟩

end Go.Proofs.Qxb6605878a.Line
