/-
  Starts in order: laws of cmpS.
-/
import Derived.Test.Qxb6608903aCk
import Derived.Test.Qxb6608903aPh
namespace Go.Proofs.Qxb6608903a.Ix
open Go.RowKit Mem Go.Sort Plain
open CmpW
set_option linter.unusedVariables false

theorem slex_cmpS {u v : List Int} (h : slex u v) : cmpS u v < 0 := by
  unfold cmpS
  rcases h with h | ⟨h1, h2⟩
  · rw [if_neg (by omega), if_pos h]; decide
  · rw [if_pos h1]; exact h2

theorem cmpS_anti (u v : List Int) : cmpS v u = -cmpS u v := by
  unfold cmpS
  by_cases h : u.length = v.length
  · rw [if_pos h, if_pos h.symm, cmpR_anti]
  · rw [if_neg h, if_neg (fun e => h e.symm)]
    by_cases h2 : u.length < v.length
    · rw [if_pos h2, if_neg (by omega)]; rfl
    · rw [if_neg h2, if_pos (by omega)]

theorem cmpS_self (u : List Int) : cmpS u u = 0 := by unfold cmpS; rw [if_pos rfl, cmpR_self]

/-- In a row that is in order: ahead of place p means less. -/
theorem cmpS_place {M : List (List Int)} (hM : M.Pairwise slex) {i p : Nat} (hi : i < M.length) (hp : p < M.length) : (cmpS (M.getD i []) (M.getD p []) < 0) ↔ i < p := by
  have gt : ∀ a b, a < b → b < M.length → slex (M.getD a []) (M.getD b []) := fun a b hab hb => by
    have := List.pairwise_iff_getElem.1 hM a b (by omega) hb hab
    rw [getD_eq (show a < M.length by omega), getD_eq hb]
    exact this
  constructor
  · intro h
    rcases Nat.lt_trichotomy i p with h1 | h1 | h1
    · exact h1
    · subst h1; rw [cmpS_self] at h; omega
    · have h2 := slex_cmpS (gt p i h1 hi)
      rw [cmpS_anti] at h2
      omega
  · intro h
    exact slex_cmpS (gt i p h hp)

end Go.Proofs.Qxb6608903a.Ix
