/-
  The nodes of a trie lie in order of length, then of characters: so the labels alone say where each lies.
-/
import Derived.Test.Qxb6608903aPd
import Derived.Test.Qxb6608903aPf
namespace Go.Proofs.Qxb6608903a.Plain
set_option linter.unusedVariables false

/-- Shorter, or of one length and less by characters. -/
def slex (u v : List Int) : Prop := u.length < v.length ∨ (u.length = v.length ∧ cmpR u v < 0)

theorem cmpR_self (u : List Int) : cmpR u u = 0 := by
  induction u with
  | nil => rfl
  | cons x u ih => simp [cmpR, ih]

theorem slex_irrefl (u : List Int) : ¬ slex u u := by
  rintro (h | ⟨_, h⟩)
  · omega
  · rw [cmpR_self] at h; omega

theorem slex_anti {u v : List Int} (h : slex u v) (k : slex v u) : False := by
  rcases h with h | ⟨h1, h2⟩ <;> rcases k with k | ⟨k1, k2⟩
  · omega
  · omega
  · omega
  · have := cmpR_anti u v; omega

theorem cmpR_snoc_lt {u v : List Int} (hl : u.length = v.length) (h : cmpR u v < 0) (r s : Int) : cmpR (u ++ [r]) (v ++ [s]) < 0 := by
  induction u generalizing v with
  | nil =>
    cases v with
    | nil => simp [cmpR] at h
    | cons y v => simp at hl
  | cons x u ih =>
    cases v with
    | nil => simp at hl
    | cons y v =>
      simp only [List.cons_append, cmpR] at h ⊢
      split
      · omega
      · rename_i h1
        rw [if_neg h1] at h
        split
        · rename_i h2; rw [if_pos h2] at h; omega
        · rename_i h2
          rw [if_neg h2] at h
          exact ih (by simpa using hl) h

theorem cmpR_snoc_same (u : List Int) {r s : Int} (h : r < s) : cmpR (u ++ [r]) (u ++ [s]) < 0 := by
  induction u with
  | nil => simp [cmpR, h]
  | cons x u ih => simp [cmpR, ih]

theorem slex_snoc {u v : List Int} (h : slex u v) (r s : Int) : slex (u ++ [r]) (v ++ [s]) := by
  rcases h with h | ⟨h1, h2⟩
  · left; simp; omega
  · right; exact ⟨by simp [h1], cmpR_snoc_lt h1 h2 r s⟩

theorem BF.slex {S M : List (List Int)} (h : BF S M M.length) : ∀ n i j, j ≤ n → i < j → j < M.length → slex (M.getD i []) (M.getD j []) := by
  intro n
  induction n with
  | zero => intro i j h1 h2; omega
  | succ n ih =>
    intro i j h1 h2 h3
    obtain ⟨pj, qj, hpj, hqj, ej⟩ := h.locate (p := j) (by omega) h3
    obtain ⟨s, hs⟩ := isKid_iff.1 (h.kid pj qj hpj hqj)
    rw [← ej] at hs
    by_cases hi0 : i = 0
    · subst hi0
      rw [h.head, hs]
      left; simp
    · obtain ⟨pi, qi, hpi, hqi, ei⟩ := h.locate (p := i) (by omega) (by omega)
      obtain ⟨r, hr⟩ := isKid_iff.1 (h.kid pi qi hpi hqi)
      rw [← ei] at hr
      by_cases hlt : pi < pj
      · rw [hr, hs]
        refine slex_snoc (ih pi pj ?_ hlt hpj) r s
        have := h.gt pj hpj
        omega
      · by_cases heq : pi = pj
        · subst heq
          rw [hr, hs]
          right
          refine ⟨by simp, cmpR_snoc_same _ ?_⟩
          have := h.mono hpi (q := qi) (q' := qj) (by omega) hqj
          rw [← ei, ← ej, hr, hs] at this
          simpa [lastC] using this
        · exfalso
          have := fst_le S M (j := pj + 1) (k := pi) (by omega)
          have e1 : fst S M (pj + 1) = fst S M pj + cnt S (M.getD pj []) := rfl
          omega

theorem BF.sorted {S M : List (List Int)} (h : BF S M M.length) : M.Pairwise Plain.slex := by
  rw [List.pairwise_iff_getElem]
  intro i j hi hj hij
  have := h.slex j i j (Nat.le_refl _) hij hj
  rw [List.getD_eq_getElem?_getD, List.getD_eq_getElem?_getD, List.getElem?_eq_getElem hi, List.getElem?_eq_getElem hj] at this
  exact this

/-- One set of labels: one row of nodes. -/
theorem BF.unique {S M S' M' : List (List Int)} (hT : Tr S) (hT' : Tr S') (h : BF S M M.length) (h' : BF S' M' M'.length) (e : ∀ u, u ∈ S ↔ u ∈ S') : M = M' := by
  have hp : M.Perm M' := (List.perm_ext_iff_of_nodup h.nodup h'.nodup).2 fun u => by rw [h.all hT, h'.all hT', e]
  exact hp.eq_of_pairwise (fun a b _ _ h1 h2 => absurd h2 (fun k => slex_anti h1 k)) h.sorted h'.sorted

end Go.Proofs.Qxb6608903a.Plain
