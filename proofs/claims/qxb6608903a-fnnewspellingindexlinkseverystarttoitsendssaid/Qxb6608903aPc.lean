/-
  THE PLAIN PART, C: a node's children read off its chain.
-/
import Derived.Test.Qxb6608903aPb
namespace Go.Proofs.Qxb6608903a.Plain
set_option linter.unusedVariables false

theorem filter_take_succ (S : List (List Int)) (u : List Int) {c : Nat} (hc : c < S.length) : (S.take (c + 1)).filter (isKid u) = (S.take c).filter (isKid u) ++ if isKid u (S.getD c []) = true then [S.getD c []] else [] := by
  rw [List.take_succ_eq_append_getElem hc, List.filter_append, ← getD_eq hc]
  generalize S.getD c [] = v
  by_cases h : isKid u v = true
  · rw [if_pos h]; simp [h]
  · rw [if_neg h]
    have h' : isKid u v = false := by simpa using h
    simp [h']

theorem filter_take_same (S : List (List Int)) (u : List Int) {a b : Nat} (hab : a ≤ b) (hb : b ≤ S.length) (h : ∀ i, a ≤ i → i < b → isKid u (S.getD i []) = false) : (S.take b).filter (isKid u) = (S.take a).filter (isKid u) := by
  induction b with
  | zero => obtain rfl : a = 0 := by omega
            rfl
  | succ b ih =>
    by_cases e : a = b + 1
    · rw [e]
    · rw [filter_take_succ S u (by omega), ih (by omega) (by omega) (fun i h1 h2 => h i h1 (by omega)), h b (by omega) (by omega)]
      simp

/-- The state of the walk along a chain of children: c: the child that comes next, 0 at the chain's end; D: the children that have been met. -/
def KidSt (S : List (List Int)) (u : List Int) (c : Nat) (D : List (List Int)) : Prop :=
  (c = 0 ∧ D = S.filter (isKid u)) ∨ (c ≠ 0 ∧ c < S.length ∧ isKid u (S.getD c []) = true ∧ D = (S.take c).filter (isKid u))

theorem KidSt.start {S : List (List Int)} (h : Tr S) (u : List Int) : KidSt S u (nx S u 1) [] := by
  have h0 : isKid u (S.getD 0 []) = false := by rw [h.head]; exact isKid_nil u
  rcases nx_spec S u 1 with ⟨h1, h2⟩ | ⟨h1, h2, h3, h4⟩
  · refine .inl ⟨h1, ?_⟩
    have := filter_take_same S u (Nat.zero_le S.length) (Nat.le_refl _) (fun i _ hi => by
      by_cases e : i = 0
      · rw [e]; exact h0
      · exact h2 i (by omega) hi)
    rw [List.take_length] at this
    rw [this]; rfl
  · refine .inr ⟨by omega, h2, h3, ?_⟩
    have := filter_take_same S u (Nat.zero_le (nx S u 1)) (by omega) (fun i _ hi => by
      by_cases e : i = 0
      · rw [e]; exact h0
      · exact h4 i (by omega) hi)
    rw [this]; rfl

theorem KidSt.step {S : List (List Int)} {u : List Int} {c : Nat} {D : List (List Int)} (h : KidSt S u c D) (h0 : c ≠ 0) : c < S.length ∧ KidSt S u (ns S c) (D ++ [S.getD c []]) := by
  rcases h with ⟨h1, _⟩ | ⟨_, h2, h3, h4⟩
  · exact absurd h1 h0
  · refine ⟨h2, ?_⟩
    have e1 : (S.take (c + 1)).filter (isKid u) = D ++ [S.getD c []] := by rw [filter_take_succ S u h2, if_pos h3, h4]
    have e2 : ns S c = nx S u (c + 1) := by unfold ns; rw [if_neg h0, isKid_parent h3]
    rw [e2, ← e1]
    rcases nx_spec S u (c + 1) with ⟨g1, g2⟩ | ⟨g1, g2, g3, g4⟩
    · refine .inl ⟨g1, ?_⟩
      have := filter_take_same S u (a := c + 1) (b := S.length) (by omega) (Nat.le_refl _) (fun i hi hi' => g2 i hi hi')
      rw [List.take_length] at this
      exact this.symm
    · exact .inr ⟨by omega, g2, g3, (filter_take_same S u g1 (by omega) (fun i hi hi' => g4 i hi hi')).symm⟩

theorem KidSt.done {S : List (List Int)} {u : List Int} {D : List (List Int)} (h : KidSt S u 0 D) : D = S.filter (isKid u) := by
  rcases h with ⟨_, h2⟩ | ⟨h1, _⟩
  · exact h2
  · exact absurd rfl h1

theorem KidSt.len {S : List (List Int)} {u : List Int} {c : Nat} {D : List (List Int)} (h : KidSt S u c D) : D.length ≤ S.length := by
  rcases h with ⟨_, h2⟩ | ⟨_, _, _, h2⟩
  · rw [h2]; exact List.length_filter_le _ _
  · rw [h2]; exact Nat.le_trans (List.length_filter_le _ _) (by rw [List.length_take]; omega)

/-- The place of a label. -/
theorem ix_lt {S : List (List Int)} {u : List Int} (h : u ∈ S) : S.idxOf u < S.length := List.idxOf_lt_length_of_mem h

theorem getD_ix {S : List (List Int)} {u : List Int} (h : u ∈ S) : S.getD (S.idxOf u) [] = u := by
  rw [getD_eq (ix_lt h)]
  exact List.getElem_idxOf (ix_lt h)

theorem ix_getD {S : List (List Int)} (hn : S.Nodup) {c : Nat} (h : c < S.length) : S.idxOf (S.getD c []) = c := by
  have hm := getD_mem h
  exact getD_inj hn (ix_lt hm) h (getD_ix hm)

theorem fc_ix {S : List (List Int)} {u : List Int} (h : u ∈ S) : fc S (S.idxOf u) = nx S u 1 := by
  unfold fc; rw [getD_ix h]

/-- Children sorted: their characters rise strictly. -/
theorem kids_asc {S : List (List Int)} (hS : S.Nodup) {u : List Int} {D : List (List Int)} (hD : D.Perm (S.filter (isKid u))) (hs : ∀ q q', q < q' → q' < D.length → lastC (D.getD q []) ≤ lastC (D.getD q' [])) :
    ∀ q, q + 1 < D.length → lastC (D.getD q []) < lastC (D.getD (q + 1) []) := by
  intro q hq
  have h1 := hs q (q + 1) (by omega) hq
  have hnd : D.Nodup := hD.symm.nodup (hS.filter _)
  have hk : ∀ i, i < D.length → isKid u (D.getD i []) = true := fun i hi => by
    have := hD.mem_iff.1 (getD_mem hi)
    rw [List.mem_filter] at this
    exact this.2
  by_cases e : lastC (D.getD q []) = lastC (D.getD (q + 1) [])
  · have := getD_inj hnd (by omega) hq (kid_ext (hk q (by omega)) (hk (q + 1) hq) e)
    omega
  · omega

end Go.Proofs.Qxb6608903a.Plain
