/-
  Links laid by node, plainly: how many lie ahead of a node's, where each goes, and what the sorted parts say.
-/
import Derived.Test.Qxb6608903aUa
namespace Go.Proofs.Qxb6608903a.U
set_option linter.unusedVariables false

/-- How many pairs bear node v. -/
def cn (P : List (Nat × Int)) (v : Nat) : Nat := P.countP fun p => p.1 == v

/-- How many bear a node ahead of v. -/
def blw (P : List (Nat × Int)) (v : Nat) : Nat := P.countP fun p => decide (p.1 < v)

/-- The links of node v, in the order of their coming. -/
def lksAt (P : List (Nat × Int)) (v : Nat) : List Int := (P.filter fun p => p.1 == v).map Prod.snd

theorem blw_zero (P : List (Nat × Int)) : blw P 0 = 0 := by
  unfold blw
  rw [List.countP_eq_zero]
  intro p hp
  simp

theorem blw_succ (P : List (Nat × Int)) (v : Nat) : blw P (v + 1) = blw P v + cn P v := by
  unfold blw cn
  induction P with
  | nil => rfl
  | cons p P ih =>
    simp only [List.countP_cons]
    rw [ih]
    by_cases h1 : p.1 < v
    · have h2 : ¬ p.1 = v := by omega
      have h3 : p.1 < v + 1 := by omega
      simp [h1, h2, h3]; omega
    · by_cases h2 : p.1 = v
      · have h3 : p.1 < v + 1 := by omega
        simp [h2]; omega
      · have h3 : ¬ p.1 < v + 1 := by omega
        simp [h1, h2, h3]

theorem cn_append (P Q : List (Nat × Int)) (v : Nat) : cn (P ++ Q) v = cn P v + cn Q v := List.countP_append

theorem cn_one (u v : Nat) (l : Int) : cn [(u, l)] v = if u = v then 1 else 0 := by
  unfold cn
  by_cases h : u = v <;> simp [h]

theorem lks_len (P : List (Nat × Int)) (v : Nat) : (lksAt P v).length = cn P v := by
  unfold lksAt cn
  rw [List.length_map, List.countP_eq_length_filter]

theorem lks_append (P Q : List (Nat × Int)) (v : Nat) : lksAt (P ++ Q) v = lksAt P v ++ lksAt Q v := by
  unfold lksAt
  rw [List.filter_append, List.map_append]

theorem lks_one (u v : Nat) (l : Int) : lksAt [(u, l)] v = if u = v then [l] else [] := by
  unfold lksAt
  by_cases h : u = v <;> simp [h]

theorem blw_mono (P : List (Nat × Int)) {u v : Nat} (h : u ≤ v) : blw P u ≤ blw P v := by
  induction v with
  | zero => obtain rfl : u = 0 := by omega
            exact Nat.le_refl _
  | succ v ih =>
    by_cases e : u = v + 1
    · subst e; exact Nat.le_refl _
    · have := ih (by omega)
      rw [blw_succ]; omega

theorem blw_all (P : List (Nat × Int)) (N : Nat) (h : ∀ p ∈ P, p.1 < N) : blw P N = P.length := by
  unfold blw
  rw [List.countP_eq_length]
  intro p hp
  simp [h p hp]

theorem blw_le (P : List (Nat × Int)) (v : Nat) : blw P v ≤ P.length := List.countP_le_length

/-- Half way: P1 has been laid, of P. -/
def Laid (P P1 : List (Nat × Int)) (R : Nat → Int) : Prop := ∀ v i, i < cn P1 v → R (blw P v + i) = (lksAt P1 v).getD i 0

theorem Laid.start (P : List (Nat × Int)) (R : Nat → Int) : Laid P [] R := fun v i h => by simp [cn] at h

/-- One number is put. -/
def putI (R : Nat → Int) (j : Nat) (x : Int) : Nat → Int := fun k => if k = j then x else R k

theorem cn_le_of_prefix {P P1 Q : List (Nat × Int)} (h : P = P1 ++ Q) (v : Nat) : cn P1 v ≤ cn P v := by rw [h, cn_append]; omega

theorem Laid.step {P P1 Q : List (Nat × Int)} {R : Nat → Int} {u : Nat} {l : Int} (hP : P = (P1 ++ [(u, l)]) ++ Q) (h : Laid P P1 R) : Laid P (P1 ++ [(u, l)]) (putI R (blw P u + cn P1 u) l) ∧ blw P u + cn P1 u < blw P (u + 1) := by
  have hle : ∀ v, cn (P1 ++ [(u, l)]) v ≤ cn P v := cn_le_of_prefix hP
  have hu : cn P1 u + 1 ≤ cn P u := by
    have := hle u
    rw [cn_append, cn_one, if_pos rfl] at this
    exact this
  refine ⟨fun v i hi => ?_, by rw [blw_succ]; omega⟩
  rw [cn_append, cn_one] at hi
  rw [lks_append, lks_one]
  by_cases e : u = v
  · subst e
    rw [if_pos rfl] at hi
    rw [if_pos rfl]
    unfold putI
    by_cases e2 : i = cn P1 u
    · subst e2
      rw [if_pos rfl, List.getD_eq_getElem?_getD, List.getElem?_append_right (by rw [lks_len]; exact Nat.le_refl _), lks_len]
      simp
    · rw [if_neg (by omega), h u i (by omega), List.getD_eq_getElem?_getD, List.getD_eq_getElem?_getD, List.getElem?_append_left (by rw [lks_len]; omega)]
  · rw [if_neg e] at hi
    rw [if_neg e, List.append_nil]
    unfold putI
    have h1 := hle v
    rw [cn_append, cn_one, if_neg e] at h1
    rw [if_neg, h v i (by omega)]
    intro k
    rcases Nat.lt_or_gt_of_ne e with h2 | h2
    · have a := blw_mono P (u := u + 1) (v := v) (by omega)
      rw [blw_succ] at a
      omega
    · have a := blw_mono P (u := v + 1) (v := u) (by omega)
      rw [blw_succ] at a
      omega

/-- All laid and each node's part in order. -/
def Done (P : List (Nat × Int)) (N : Nat) (R : Nat → Int) : Prop := ∀ v, v < N → Srtd R (blw P v) (blw P (v + 1)) ∧ (sgI R (blw P v) (cn P v)).Perm (lksAt P v)

theorem sgI_getElem (R : Nat → Int) (lo k : Nat) {i : Nat} (h : i < k) : (sgI R lo k)[i]? = some (R (lo + i)) := by
  unfold sgI
  rw [List.getElem?_map, List.getElem?_range h]
  rfl

theorem sgI_len (R : Nat → Int) (lo k : Nat) : (sgI R lo k).length = k := by simp [sgI]

theorem Laid.part {P : List (Nat × Int)} {R : Nat → Int} (h : Laid P P R) (v : Nat) : sgI R (blw P v) (cn P v) = lksAt P v := by
  apply List.ext_getElem?
  intro i
  by_cases hi : i < cn P v
  · rw [sgI_getElem _ _ _ hi, h v i hi, List.getD_eq_getElem?_getD, List.getElem?_eq_getElem (by rw [lks_len]; exact hi)]
    rfl
  · rw [List.getElem?_eq_none (by rw [sgI_len]; omega), List.getElem?_eq_none (by rw [lks_len]; omega)]

theorem sgI_sorted {R : Nat → Int} {lo k : Nat} (h : Srtd R lo (lo + k)) : (sgI R lo k).Pairwise (· ≤ ·) := by
  rw [List.pairwise_iff_getElem]
  intro i j hi hj hij
  rw [sgI_len] at hi hj
  have a := sgI_getElem R lo k hi
  have b := sgI_getElem R lo k hj
  rw [List.getElem?_eq_getElem (by rw [sgI_len]; exact hi)] at a
  rw [List.getElem?_eq_getElem (by rw [sgI_len]; exact hj)] at b
  simp at a b
  rw [a, b]
  exact h _ _ (by omega) (by omega) (by omega)

theorem cn_perm {P P' : List (Nat × Int)} (h : P.Perm P') (v : Nat) : cn P v = cn P' v := h.countP_eq _
theorem blw_perm {P P' : List (Nat × Int)} (h : P.Perm P') (v : Nat) : blw P v = blw P' v := h.countP_eq _
theorem lks_perm {P P' : List (Nat × Int)} (h : P.Perm P') (v : Nat) : (lksAt P v).Perm (lksAt P' v) := (h.filter _).map _

/-- The pairs alone, not their order, say what is laid. -/
theorem Done.unique {P P' : List (Nat × Int)} {N : Nat} {R R' : Nat → Int} (h : Done P N R) (h' : Done P' N R') (hp : P.Perm P') : ∀ j, j < blw P N → R j = R' j := by
  have part : ∀ v, v < N → sgI R (blw P v) (cn P v) = sgI R' (blw P v) (cn P v) := fun v hv => by
    obtain ⟨a1, a2⟩ := h v hv
    obtain ⟨b1, b2⟩ := h' v hv
    rw [← blw_perm hp, ← cn_perm hp] at b2
    rw [← blw_perm hp, ← blw_perm hp, blw_succ] at b1
    rw [blw_succ] at a1
    exact (a2.trans ((lks_perm hp v).trans b2.symm)).eq_of_pairwise (fun a b _ _ h1 h2 => Int.le_antisymm h1 h2) (sgI_sorted a1) (sgI_sorted b1)
  intro j hj
  have loc : ∀ n, n ≤ N → j < blw P n → ∃ v, v < n ∧ blw P v ≤ j ∧ j < blw P v + cn P v := by
    intro n
    induction n with
    | zero => intro _ h0; rw [blw_zero] at h0; omega
    | succ n ih =>
      intro hn h0
      by_cases e : j < blw P n
      · obtain ⟨v, hv, h1⟩ := ih (by omega) e
        exact ⟨v, by omega, h1⟩
      · rw [blw_succ] at h0
        exact ⟨n, by omega, by omega, h0⟩
  obtain ⟨v, hv, h1, h2⟩ := loc N (Nat.le_refl _) hj
  have e : (sgI R (blw P v) (cn P v))[j - blw P v]? = (sgI R' (blw P v) (cn P v))[j - blw P v]? := by rw [part v hv]
  rw [sgI_getElem _ _ _ (by omega), sgI_getElem _ _ _ (by omega), show blw P v + (j - blw P v) = j by omega] at e
  exact Option.some.inj e

end Go.Proofs.Qxb6608903a.U
