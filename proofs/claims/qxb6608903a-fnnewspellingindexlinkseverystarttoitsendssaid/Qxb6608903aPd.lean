/-
  THE PLAIN PART, D: finding a label's place.
-/
import Derived.Test.Qxb6608903aPc
namespace Go.Proofs.Qxb6608903a.Plain
set_option linter.unusedVariables false

theorem BF.mono {S M : List (List Int)} {i : Nat} (h : BF S M i) {j q q' : Nat} (hj : j < i) (hq : q < q') (hq' : q' < cnt S (M.getD j [])) : lastC (M.getD (fst S M j + q) []) < lastC (M.getD (fst S M j + q') []) := by
  induction q' with
  | zero => omega
  | succ q' ih =>
    have h1 := h.asc j q' hj hq'
    by_cases e : q = q'
    · rw [e]; exact h1
    · exact Int.lt_trans (ih (by omega) (by omega)) h1

theorem BF.top {S M : List (List Int)} {i : Nat} (h : BF S M i) {j : Nat} (hj : j < i) : fst S M j + cnt S (M.getD j []) ≤ M.length := by
  have := fst_le S M (j := j + 1) (k := i) (by omega)
  rw [h.len]; exact this

/-- The place of a child lies among its parent's children. -/
theorem BF.kid_place {S M : List (List Int)} (h : BF S M M.length) {j c : Nat} {r : Int} (hj : j < M.length) (hc : c < M.length) (e : M.getD c [] = M.getD j [] ++ [r]) : ∃ q, q < cnt S (M.getD j []) ∧ c = fst S M j + q := by
  have h0 : c ≠ 0 := by
    rintro rfl
    rw [h.head] at e
    simp at e
  obtain ⟨j', q, hj', hq, hp⟩ := h.locate (by omega) hc
  have hk := h.kid j' q hj' hq
  rw [← hp, e] at hk
  have := getD_inj h.nodup hj' hj (isKid_snoc_iff.1 hk)
  subst this
  exact ⟨q, hq, hp⟩

end Go.Proofs.Qxb6608903a.Plain
