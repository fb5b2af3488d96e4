/-
  Pairs in order of node, then of link: they say where each node's links begin, and what the links are.
-/
import Derived.Test.Qxb6608903aPj
import Derived.Test.Qxb6608903aCk
namespace Go.Proofs.Qxb6608903a.U
open Go.RowKit Plain Mem Go.Sort
open CmpW
set_option linter.unusedVariables false

theorem blw_ge {Q : List (Nat × Int)} {v : Nat} (h : ∀ a ∈ Q, v ≤ a.1) : blw Q v = 0 := by
  unfold blw
  rw [List.countP_eq_zero]
  intro a ha
  have := h a ha
  simp; omega

theorem blw_cons (x : Nat × Int) (Q : List (Nat × Int)) (v : Nat) : blw (x :: Q) v = blw Q v + if x.1 < v then 1 else 0 := by
  unfold blw
  rw [List.countP_cons]
  by_cases h : x.1 < v <;> simp [h]

theorem cn_cons (x : Nat × Int) (Q : List (Nat × Int)) (v : Nat) : cn (x :: Q) v = cn Q v + if x.1 = v then 1 else 0 := by
  unfold cn
  rw [List.countP_cons]
  by_cases h : x.1 = v <;> simp [h]

theorem cn_gt {Q : List (Nat × Int)} {v : Nat} (h : ∀ a ∈ Q, v < a.1) : cn Q v = 0 := by
  unfold cn
  rw [List.countP_eq_zero]
  intro a ha
  have := h a ha
  simp; omega

theorem blw_place {Q : List (Nat × Int)} (h : Q.Pairwise (fun a b => a.1 ≤ b.1)) (v : Nat) : ∀ p, p < Q.length → ((Q.getD p (0, 0)).1 < v ↔ p < blw Q v) := by
  induction Q with
  | nil => intro p hp; simp at hp
  | cons x Q ih =>
    rw [List.pairwise_cons] at h
    intro p hp
    rw [blw_cons]
    by_cases hx : x.1 < v
    · rw [if_pos hx]
      cases p with
      | zero => simp [hx]
      | succ p =>
        rw [List.getD_cons_succ, ih h.2 p (by simpa using hp)]
        omega
    · rw [if_neg hx, Nat.add_zero, blw_ge (fun a ha => by have := h.1 a ha; omega)]
      constructor
      · intro h1
        exfalso
        cases p with
        | zero => exact hx h1
        | succ p =>
          rw [List.getD_cons_succ] at h1
          have hm : Q.getD p (0, 0) ∈ Q := by
            rw [List.getD_eq_getElem?_getD, List.getElem?_eq_getElem (by simpa using hp)]
            exact List.getElem_mem _
          have := h.1 _ hm
          omega
      · intro h1; omega

theorem filt_seg {Q : List (Nat × Int)} (h : Q.Pairwise (fun a b => a.1 ≤ b.1)) (v : Nat) : Q.filter (fun p => p.1 == v) = (Q.drop (blw Q v)).take (cn Q v) := by
  induction Q with
  | nil => simp
  | cons x Q ih =>
    rw [List.pairwise_cons] at h
    rw [blw_cons, cn_cons]
    by_cases h1 : x.1 < v
    · rw [if_pos h1, if_neg (by omega), List.filter_cons_of_neg (by simp; omega), ih h.2]
      rfl
    · rw [if_neg h1]
      by_cases h2 : x.1 = v
      · rw [if_pos h2, List.filter_cons_of_pos (by simp [h2]), ih h.2, Nat.add_zero, blw_ge (Q := Q) (fun a ha => by have := h.1 a ha; omega)]
        simp
      · rw [if_neg h2, List.filter_cons_of_neg (by simp [h2]), ih h.2, cn_gt (Q := Q) (fun a ha => by have := h.1 a ha; omega)]
        simp

/-- The pairs in the order that the sort gives. -/
theorem pairs_done {P : List (Nat × Int)} {I : Nat → Nat} {N : Nat} {R : Nat → Int} (hI : (seg I 0 P.length).Perm (List.range P.length))
    (hs : ∀ p q, p < q → q < P.length → cmpP (P.getD (I p) (0, 0)).1 (P.getD (I p) (0, 0)).2 (P.getD (I q) (0, 0)).1 (P.getD (I q) (0, 0)).2 ≤ 0) (hN : ∀ p ∈ P, p.1 < N) (hD : Done P N R) :
    (∀ v p, p < P.length → ((P.getD (I p) (0, 0)).1 < v ↔ p < blw P v)) ∧ ∀ p, p < P.length → R p = (P.getD (I p) (0, 0)).2 := by
  have hQ : ((List.range P.length).map fun p => P.getD (I p) (0, 0)).Perm P := by
    have h1 := hI.map fun x => P.getD x (0, 0)
    have e1 : (seg I 0 P.length).map (fun x => P.getD x (0, 0)) = (List.range P.length).map fun p => P.getD (I p) (0, 0) := by
      unfold seg
      rw [List.map_map]
      apply List.map_congr_left
      intro x hx
      simp
    have e2 : (List.range P.length).map (fun x => P.getD x (0, 0)) = P := by
      apply List.ext_getElem?
      intro i
      by_cases h : i < P.length
      · rw [List.getElem?_map, List.getElem?_range h, List.getElem?_eq_getElem h]
        simp [List.getElem?_eq_getElem h]
      · rw [List.getElem?_eq_none (by simp; omega), List.getElem?_eq_none (by omega)]
    rw [e1, e2] at h1
    exact h1
  generalize hQe : (List.range P.length).map (fun p => P.getD (I p) (0, 0)) = Q at hQ
  have hl : Q.length = P.length := hQ.length_eq
  have hget : ∀ p, p < P.length → Q.getD p (0, 0) = P.getD (I p) (0, 0) := fun p hp => by
    rw [← hQe, List.getD_eq_getElem?_getD, List.getElem?_map, List.getElem?_range hp]; rfl
  have hle : ∀ p q, p < q → q < P.length → (Q.getD p (0, 0)).1 < (Q.getD q (0, 0)).1 ∨ ((Q.getD p (0, 0)).1 = (Q.getD q (0, 0)).1 ∧ (Q.getD p (0, 0)).2 ≤ (Q.getD q (0, 0)).2) := fun p q h1 h2 => by
    have h := hs p q h1 h2
    rw [hget p (by omega), hget q h2]
    unfold cmpP at h
    split at h
    · rename_i e
      right
      refine ⟨e, ?_⟩
      split at h
      · omega
      · split at h <;> omega
    · split at h
      · left; assumption
      · omega
  have hpw : Q.Pairwise (fun a b => a.1 ≤ b.1) := by
    rw [List.pairwise_iff_getElem]
    intro i j hi hj hij
    have := hle i j hij (by omega)
    rw [List.getD_eq_getElem?_getD, List.getD_eq_getElem?_getD, List.getElem?_eq_getElem hi, List.getElem?_eq_getElem hj] at this
    simp only [Option.getD_some] at this
    omega
  have hb : ∀ v, blw Q v = blw P v := blw_perm hQ
  have hc : ∀ v, cn Q v = cn P v := cn_perm hQ
  have hplace : ∀ v p, p < P.length → ((Q.getD p (0, 0)).1 < v ↔ p < blw P v) := fun v p hp => by
    rw [← hb v]; exact blw_place hpw v p (by omega)
  refine ⟨fun v p hp => by rw [← hget p hp]; exact hplace v p hp, ?_⟩
  have hD' : Done P N (fun p => (Q.getD p (0, 0)).2) := fun v hv => by
    have hbl := blw_le P (v + 1)
    have hcs := blw_succ P v
    refine ⟨fun i j h1 h2 h3 => ?_, ?_⟩
    · have a1 := hplace v i (by omega)
      have a2 := hplace (v + 1) j (by omega)
      have a3 := hplace (v + 1) i (by omega)
      have a4 := hplace v j (by omega)
      rcases hle i j h2 (by omega) with h | ⟨_, h⟩
      · exfalso
        have b1 := a2.2 h3
        have b2 : ¬ (Q.getD i (0, 0)).1 < v := fun h => by have := a1.1 h; omega
        omega
      · exact h
    · refine List.Perm.trans ?_ (lks_perm hQ v)
      unfold lksAt
      rw [filt_seg hpw v, hb, hc]
      refine List.Perm.of_eq ?_
      apply List.ext_getElem?
      intro i
      by_cases hi : i < cn P v
      · rw [sgI_getElem _ _ _ hi, List.getElem?_map, List.getElem?_take_of_lt hi, List.getElem?_drop, List.getD_eq_getElem?_getD]
        rw [List.getElem?_eq_getElem (by omega)]
        rfl
      · rw [List.getElem?_eq_none (by rw [sgI_len]; omega), List.getElem?_eq_none (by simp; omega)]
  intro p hp
  rw [← hget p hp]
  exact hD.unique hD' (List.Perm.refl _) p (by rw [blw_all P N hN]; exact hp)

end Go.Proofs.Qxb6608903a.U
