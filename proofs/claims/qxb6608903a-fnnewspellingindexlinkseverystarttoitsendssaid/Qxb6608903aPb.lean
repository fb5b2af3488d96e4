/-
  THE PLAIN PART, B: the labels laid out breadth first.
-/
import Derived.Test.Qxb6608903aPa
namespace Go.Proofs.Qxb6608903a.Plain
set_option linter.unusedVariables false

/-- How many children u has in S. -/
def cnt (S : List (List Int)) (u : List Int) : Nat := (S.filter (isKid u)).length

/-- Where the children of the label at place j lie. -/
def fst (S M : List (List Int)) : Nat → Nat
  | 0 => 1
  | j + 1 => fst S M j + cnt S (M.getD j [])

theorem fst_le (S M : List (List Int)) {j k : Nat} (h : j ≤ k) : fst S M j ≤ fst S M k := by
  induction k with
  | zero => obtain rfl : j = 0 := by omega
            exact Nat.le_refl _
  | succ k ih =>
    by_cases e : j = k + 1
    · rw [e]; exact Nat.le_refl _
    · exact Nat.le_trans (ih (by omega)) (Nat.le_add_right _ _)

theorem fst_pos (S M : List (List Int)) (j : Nat) : 1 ≤ fst S M j := fst_le S M (Nat.zero_le j)

theorem fst_append (S M D : List (List Int)) (j : Nat) (h : j ≤ M.length) : fst S (M ++ D) j = fst S M j := by
  induction j with
  | zero => rfl
  | succ j ih => unfold fst; rw [ih (by omega), getD_append_left' (by omega)]

/-- The labels M are laid out; the children of the first i are. -/
structure BF (S M : List (List Int)) (i : Nat) : Prop where
  le : i ≤ M.length
  pos : 0 < M.length
  head : M.getD 0 [] = []
  nodup : M.Nodup
  sub : ∀ u ∈ M, u ∈ S
  len : M.length = fst S M i
  gt : ∀ j, j < i → j < fst S M j
  kid : ∀ j q, j < i → q < cnt S (M.getD j []) → isKid (M.getD j []) (M.getD (fst S M j + q) []) = true
  asc : ∀ j q, j < i → q + 1 < cnt S (M.getD j []) → lastC (M.getD (fst S M j + q) []) < lastC (M.getD (fst S M j + q + 1) [])

theorem BF.start {S : List (List Int)} (h : Tr S) : BF S [[]] 0 where
  le := by simp
  pos := by simp
  head := rfl
  nodup := by simp
  sub := fun u hu => by
    simp at hu
    have := getD_mem h.pos
    rw [h.head] at this
    rw [hu]; exact this
  len := rfl
  gt := fun j h => by omega
  kid := fun j q h => by omega
  asc := fun j q h => by omega

theorem locate (S M : List (List Int)) (i p : Nat) (h1 : 1 ≤ p) (h2 : p < fst S M i) : ∃ j q, j < i ∧ q < cnt S (M.getD j []) ∧ p = fst S M j + q := by
  induction i with
  | zero => simp [fst] at h2; omega
  | succ i ih =>
    by_cases e : p < fst S M i
    · obtain ⟨j, q, hj, hq, hp⟩ := ih e
      exact ⟨j, q, by omega, hq, hp⟩
    · refine ⟨i, p - fst S M i, by omega, ?_, by omega⟩
      unfold fst at h2
      omega

theorem BF.locate {S M : List (List Int)} {i : Nat} (h : BF S M i) {p : Nat} (h1 : 1 ≤ p) (h2 : p < M.length) : ∃ j q, j < i ∧ q < cnt S (M.getD j []) ∧ p = fst S M j + q :=
  Plain.locate S M i p h1 (by rw [← h.len]; exact h2)

theorem BF.step {S M : List (List Int)} {i : Nat} (h : BF S M i) (hi : i < M.length) {D : List (List Int)} (hS : S.Nodup) (hD : D.Perm (S.filter (isKid (M.getD i []))))
    (hasc : ∀ q, q + 1 < D.length → lastC (D.getD q []) < lastC (D.getD (q + 1) [])) : BF S (M ++ D) (i + 1) := by
  have hcnt : D.length = cnt S (M.getD i []) := hD.length_eq
  have hDm : ∀ u, u ∈ D → u ∈ S ∧ isKid (M.getD i []) u = true := fun u hu => by
    have := hD.mem_iff.1 hu
    rw [List.mem_filter] at this
    exact this
  have hgl : ∀ j, j < M.length → (M ++ D).getD j [] = M.getD j [] := fun j hj => getD_append_left' hj
  have hgr : ∀ q, (M ++ D).getD (M.length + q) [] = D.getD q [] := fun q => by
    rw [List.getD_eq_getElem?_getD, List.getD_eq_getElem?_getD, List.getElem?_append_right (by omega)]
    congr 2
    omega
  have hf : ∀ j, j ≤ i → fst S (M ++ D) j = fst S M j := fun j hj => fst_append S M D j (by omega)
  refine ⟨by simp; omega, by simp; have := h.pos; omega, by rw [hgl 0 h.pos]; exact h.head, ?_, ?_, ?_, ?_, ?_, ?_⟩
  · rw [List.nodup_append]
    refine ⟨h.nodup, hD.symm.nodup (hS.filter _), fun a ha b hb => ?_⟩
    rintro rfl
    obtain ⟨_, hk⟩ := hDm a hb
    obtain ⟨p, hp, e⟩ := exists_getD ha
    by_cases hp0 : p = 0
    · subst hp0
      rw [h.head] at e
      rw [← e, isKid_nil] at hk
      exact absurd hk (by simp)
    · obtain ⟨j, q, hj, hq, hpe⟩ := h.locate (by omega) hp
      have hk' := h.kid j q hj hq
      rw [← hpe, e] at hk'
      have e1 := isKid_parent hk
      rw [isKid_parent hk'] at e1
      have := getD_inj h.nodup (by omega) hi e1
      omega
  · intro u hu
    rw [List.mem_append] at hu
    rcases hu with hu | hu
    · exact h.sub u hu
    · exact (hDm u hu).1
  · show (M ++ D).length = fst S (M ++ D) i + cnt S ((M ++ D).getD i [])
    rw [List.length_append, hf i (Nat.le_refl _), hgl i hi, hcnt, h.len]
  · intro j hj
    rw [hf j (by omega)]
    by_cases e : j = i
    · rw [e, ← h.len]; exact hi
    · exact h.gt j (by omega)
  · intro j q hj hq
    rw [hgl j (by omega)] at hq ⊢
    rw [hf j (by omega)]
    by_cases e : j = i
    · subst e
      rw [← h.len, hgr q]
      exact (hDm _ (getD_mem (by omega))).2
    · have hle : fst S M j + cnt S (M.getD j []) ≤ fst S M i := fst_le S M (j := j + 1) (k := i) (by omega)
      rw [hgl _ (by rw [h.len]; omega)]
      exact h.kid j q (by omega) hq
  · intro j q hj hq
    rw [hgl j (by omega)] at hq
    rw [hf j (by omega)]
    by_cases e : j = i
    · subst e
      rw [← h.len, hgr q, Nat.add_assoc, hgr (q + 1)]
      exact hasc q (by omega)
    · have hle : fst S M j + cnt S (M.getD j []) ≤ fst S M i := fst_le S M (j := j + 1) (k := i) (by omega)
      rw [hgl _ (by rw [h.len]; omega), hgl _ (by rw [h.len]; omega)]
      exact h.asc j q (by omega) hq

theorem BF.le_S {S M : List (List Int)} {i : Nat} (h : BF S M i) : M.length ≤ S.length := h.nodup.length_le_of_subset (fun u hu => h.sub u hu)

theorem mem_of_full {α : Type} {a b : List α} (hn : a.Nodup) (hs : a ⊆ b) (hl : b.length ≤ a.length) {u : α} (hu : u ∈ b) : u ∈ a := by
  refine Classical.byContradiction fun hc => ?_
  have := List.Nodup.length_le_of_subset (l₁ := u :: a) (l₂ := b) (List.nodup_cons.2 ⟨hc, hn⟩) (fun x hx => by
    rcases List.mem_cons.1 hx with e | e
    · rw [e]; exact hu
    · exact hs e)
  simp at this
  omega

theorem getD_eq {S : List (List Int)} {i : Nat} (h : i < S.length) : S.getD i [] = S[i] := by
  rw [List.getD_eq_getElem?_getD, List.getElem?_eq_getElem h]; rfl

/-- All the labels have been laid out. -/
theorem BF.all {S M : List (List Int)} (hT : Tr S) (h : BF S M M.length) : ∀ u, u ∈ M ↔ u ∈ S := by
  have key : ∀ n u, u.length = n → u ∈ S → u ∈ M := by
    intro n
    induction n with
    | zero =>
      intro u hu _
      have : u = [] := by simpa using hu
      rw [this]
      have := getD_mem h.pos
      rw [h.head] at this
      exact this
    | succ n ih =>
      intro u hu hm
      have hne : u ≠ [] := by rintro rfl; simp at hu
      have e := List.dropLast_concat_getLast hne
      have hp : u.dropLast ∈ S := hT.closed _ (u.getLast hne) (by rw [e]; exact hm)
      have hpM := ih u.dropLast (by simp [hu]) hp
      obtain ⟨j, hj, ej⟩ := exists_getD hpM
      -- the children of label j are all in M
      have hsub : (M.drop (fst S M j)).take (cnt S (M.getD j [])) ⊆ S.filter (isKid (M.getD j [])) := by
        intro v hv
        obtain ⟨q, hq, eq⟩ := List.mem_iff_getElem.1 hv
        have hq' := hq
        rw [List.length_take, List.length_drop] at hq'
        have hk := h.kid j q hj (by omega)
        rw [List.getElem_take, List.getElem_drop] at eq
        rw [getD_eq (i := fst S M j + q) (by omega), eq] at hk
        rw [List.mem_filter]
        exact ⟨h.sub v (by rw [← eq]; exact List.getElem_mem _), hk⟩
      have hnd : ((M.drop (fst S M j)).take (cnt S (M.getD j []))).Nodup := (h.nodup.sublist (List.drop_sublist _ _)).sublist (List.take_sublist _ _)
      have hle : fst S M j + cnt S (M.getD j []) ≤ M.length := by
        have := fst_le S M (j := j + 1) (k := M.length) (by omega)
        rw [h.len]; exact this
      have hlen : ((M.drop (fst S M j)).take (cnt S (M.getD j []))).length = (S.filter (isKid (M.getD j []))).length := by
        rw [List.length_take, List.length_drop]
        show min _ _ = cnt S _
        omega
      have hin : u ∈ S.filter (isKid (M.getD j [])) := by
        rw [List.mem_filter]
        refine ⟨hm, ?_⟩
        rw [ej]
        exact isKid_iff.2 ⟨u.getLast hne, e.symm⟩
      exact List.mem_of_mem_drop (List.mem_of_mem_take (mem_of_full hnd hsub (Nat.le_of_eq hlen.symm) hin))
  intro u
  exact ⟨h.sub u, key u.length u rfl⟩

end Go.Proofs.Qxb6608903a.Plain
