/-
  The line feeds of a text: the plain law.
-/
import Derived.Test.Qxb6605878aScan
namespace Go.Proofs.Qxb6605878a.Brk
open Go.RowKit Line
set_option linter.unusedVariables false

/-- The offsets below k that hold a line feed. -/
def brk (g : Nat → Int) : Nat → List Nat
  | 0 => []
  | k + 1 => if g k = 10 then brk g k ++ [k] else brk g k

theorem brk_lt (g : Nat → Int) (k : Nat) : ∀ x ∈ brk g k, x < k := by
  induction k with
  | zero => intro x hx; simp [brk] at hx
  | succ k ih =>
    intro x hx
    unfold brk at hx
    split at hx
    · rw [List.mem_append] at hx
      rcases hx with hx | hx
      · have := ih x hx; omega
      · simp at hx; omega
    · have := ih x hx; omega

theorem brk_len (g : Nat → Int) (k : Nat) : (brk g k).length ≤ k := by
  induction k with
  | zero => simp [brk]
  | succ k ih =>
    unfold brk
    split
    · simp; omega
    · omega

theorem brk_pre (g : Nat → Int) (k n : Nat) (h : k ≤ n) : ∃ t, brk g n = brk g k ++ t ∧ ∀ x ∈ t, k ≤ x := by
  induction n with
  | zero => obtain rfl : k = 0 := by omega
            exact ⟨[], by simp, fun x hx => by simp at hx⟩
  | succ n ih =>
    by_cases e : k = n + 1
    · subst e; exact ⟨[], by simp, fun x hx => by simp at hx⟩
    · obtain ⟨t, ht, hx⟩ := ih (by omega)
      by_cases hg : g n = 10
      · refine ⟨t ++ [n], ?_, fun x hm => ?_⟩
        · rw [brk, if_pos hg, ht, List.append_assoc]
        · rw [List.mem_append] at hm
          rcases hm with hm | hm
          · exact hx x hm
          · simp at hm; omega
      · exact ⟨t, by rw [brk, if_neg hg, ht], hx⟩

theorem brk_sorted (g : Nat → Int) (k : Nat) : (brk g k).Pairwise (· < ·) := by
  induction k with
  | zero => simp [brk]
  | succ k ih =>
    unfold brk
    split
    · rw [List.pairwise_append]
      refine ⟨ih, by simp, fun a ha b hb => ?_⟩
      simp at hb
      have := brk_lt g k a ha
      omega
    · exact ih

/-- The index as a function. -/
def F (g : Nat → Int) (n : Nat) (j : Nat) : Int := ((brk g n).getD j 0 : Nat)

theorem F_at (g : Nat → Int) (n j : Nat) (h : j < (brk g n).length) : F g n j = ((brk g n)[j] : Nat) := by
  unfold F
  rw [List.getD_eq_getElem?_getD, List.getElem?_eq_getElem h]
  rfl

theorem F_ok (g : Nat → Int) (n : Nat) (hn : n ≤ 1048576) : OkL (F g n) (brk g n).length := by
  refine ⟨fun j hj => by unfold F; omega, fun j hj => ?_, fun h => ?_⟩
  · rw [F_at g n j (by omega), F_at g n (j + 1) hj]
    have := (List.pairwise_iff_getElem.1 (brk_sorted g n)) j (j + 1) (by omega) hj (by omega)
    omega
  · rw [F_at g n _ (by omega)]
    have := brk_lt g n _ (List.getElem_mem (l := brk g n) (n := (brk g n).length - 1) (by omega))
    omega

theorem F_bd (g : Nat → Int) (n : Nat) (hn : n ≤ 1048576) (j : Nat) (h : j < (brk g n).length) : F g n j ≤ 9223372036854775807 := by
  rw [F_at g n _ h]
  have := brk_lt g n _ (List.getElem_mem (l := brk g n) (n := j) h)
  omega

/-- The count of line feeds below k is the place of k. -/
theorem place_cnt (g : Nat → Int) (n k : Nat) (h : k ≤ n) : Line.Place (F g n) (brk g n).length k (brk g k).length := by
  obtain ⟨t, ht, hx⟩ := brk_pre g k n h
  have hl : (brk g n).length = (brk g k).length + t.length := by rw [ht, List.length_append]
  refine ⟨by omega, fun j hj => ?_, fun j hj hj' => ?_⟩
  · unfold F
    rw [ht, List.getD_eq_getElem?_getD, List.getElem?_append_left hj, List.getElem?_eq_getElem hj]
    have := brk_lt g k _ (List.getElem_mem (l := brk g k) (n := j) hj)
    simp
    omega
  · unfold F
    rw [ht, List.getD_eq_getElem?_getD, List.getElem?_append_right hj, List.getElem?_eq_getElem (by omega)]
    have := hx _ (List.getElem_mem (l := t) (n := j - (brk g k).length) (by omega))
    simp
    omega

theorem place_uniq {f : Nat → Int} {n : Nat} {t : Int} {p q : Nat} (hp : Line.Place f n t p) (hq : Line.Place f n t q) : p = q := by
  obtain ⟨a1, a2, a3⟩ := hp
  obtain ⟨b1, b2, b3⟩ := hq
  rcases Nat.lt_trichotomy p q with h | h | h
  · have := b2 p h; have := a3 p (Nat.le_refl _) (by omega); omega
  · exact h
  · have := a2 q h; have := b3 q (Nat.le_refl _) (by omega); omega

theorem cnt_yes (g : Nat → Int) (k : Nat) (h : g k = 10) : (brk g (k + 1)).length = (brk g k).length + 1 := by
  rw [brk, if_pos h, List.length_append]; rfl

theorem cnt_no (g : Nat → Int) (k : Nat) (h : g k ≠ 10) : brk g (k + 1) = brk g k := by
  rw [brk, if_neg h]

theorem F_yes (g : Nat → Int) (n k : Nat) (hk : k < n) (h : g k = 10) : F g n (brk g k).length = k ∧ (brk g k).length < (brk g n).length := by
  obtain ⟨t, ht, hx⟩ := brk_pre g (k + 1) n hk
  rw [brk, if_pos h] at ht
  refine ⟨?_, by rw [ht]; simp⟩
  unfold F
  rw [ht, List.append_assoc, List.getD_eq_getElem?_getD, List.getElem?_append_right (Nat.le_refl _)]
  simp

/-- Where the line of offset k starts. -/
def ls (g : Nat → Int) (n k : Nat) : Int := st (F g n) (brk g n).length ((brk g k).length + 1)

theorem ls_zero (g : Nat → Int) (n : Nat) : ls g n 0 = 0 := by
  unfold ls st
  rw [if_pos (.inl (by simp [brk]))]

theorem ls_yes (g : Nat → Int) (n k : Nat) (hk : k < n) (h : g k = 10) : ls g n (k + 1) = k + 1 := by
  obtain ⟨h1, h2⟩ := F_yes g n k hk h
  unfold ls st
  rw [cnt_yes g k h]
  rw [if_neg (by omega), if_pos (by omega)]
  rw [show (((((brk g k).length + 1 : Nat) : Int) + 1).toNat - 2) = (brk g k).length from by omega, h1]

theorem ls_no (g : Nat → Int) (n k : Nat) (h : g k ≠ 10) : ls g n (k + 1) = ls g n k := by
  unfold ls
  rw [cnt_no g k h]

theorem ls_bd (g : Nat → Int) (n k : Nat) (hk : k ≤ n) : 0 ≤ ls g n k ∧ ls g n k ≤ n := by
  unfold ls
  rcases st_cases (F g n) (brk g n).length (((brk g k).length : Int) + 1) with ⟨e1, e2⟩ | ⟨m, hm, e1, e2⟩
  · rw [e2]; omega
  · rw [e2, F_at g n m hm]
    have := brk_lt g n _ (List.getElem_mem (l := brk g n) (n := m) hm)
    omega

end Go.Proofs.Qxb6605878a.Brk
