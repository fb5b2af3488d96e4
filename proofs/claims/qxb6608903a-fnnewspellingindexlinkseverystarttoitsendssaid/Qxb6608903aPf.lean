/-
  THE PLAIN PART, F: texts in order; the distinct starts of texts in order counted.
-/
import Derived.Test.Qxb6608903aPe
namespace Go.Proofs.Qxb6608903a.Plain
set_option linter.unusedVariables false

/-- zzCmpRunes. -/
def cmpR : List Int → List Int → Int
  | [], [] => 0
  | [], _ :: _ => -1
  | _ :: _, [] => 1
  | a :: as, b :: bs => if a < b then -1 else if b < a then 1 else cmpR as bs

theorem cmpR_vals (a b : List Int) : cmpR a b = -1 ∨ cmpR a b = 0 ∨ cmpR a b = 1 := by
  induction a generalizing b with
  | nil => cases b <;> simp [cmpR]
  | cons x a ih =>
    cases b with
    | nil => simp [cmpR]
    | cons y b =>
      unfold cmpR
      split
      · exact .inl rfl
      · split
        · exact .inr (.inr rfl)
        · exact ih b

theorem cmpR_anti (a b : List Int) : cmpR b a = -cmpR a b := by
  induction a generalizing b with
  | nil => cases b <;> simp [cmpR]
  | cons x a ih =>
    cases b with
    | nil => simp [cmpR]
    | cons y b =>
      unfold cmpR
      by_cases h1 : x < y
      · rw [if_pos h1, if_neg (by omega), if_pos h1]; rfl
      · by_cases h2 : y < x
        · rw [if_pos h2, if_neg h1, if_pos h2]
        · rw [if_neg h1, if_neg h2, if_neg h2, if_neg h1]; exact ih b

theorem cmpR_trans (a b c : List Int) (h1 : cmpR a b ≤ 0) (h2 : cmpR b c ≤ 0) : cmpR a c ≤ 0 := by
  induction a generalizing b c with
  | nil => cases c <;> simp [cmpR]
  | cons x a ih =>
    cases b with
    | nil => simp [cmpR] at h1
    | cons y b =>
      cases c with
      | nil => simp [cmpR] at h2
      | cons z c =>
        unfold cmpR at h1 h2 ⊢
        by_cases e1 : x < y
        · by_cases e2 : y < z
          · rw [if_pos (by omega)]; omega
          · by_cases e3 : z < y
            · rw [if_neg e2, if_pos e3] at h2; omega
            · rw [if_pos (by omega)]; omega
        · by_cases e1' : y < x
          · rw [if_neg e1, if_pos e1'] at h1; omega
          · have hxy : x = y := by omega
            subst hxy
            rw [if_neg e1, if_neg e1'] at h1
            by_cases e2 : x < z
            · rw [if_pos e2]; omega
            · by_cases e3 : z < x
              · rw [if_neg e2, if_pos e3] at h2; omega
              · rw [if_neg e2, if_neg e3] at h2 ⊢
                exact ih b c h1 h2

/-- zzLcp. -/
def lcp : List Int → List Int → Nat
  | a :: as, b :: bs => if a = b then lcp as bs + 1 else 0
  | _, _ => 0

theorem lcp_le (a b : List Int) : lcp a b ≤ a.length := by
  induction a generalizing b with
  | nil => simp [lcp]
  | cons x a ih =>
    cases b with
    | nil => simp [lcp]
    | cons y b =>
      unfold lcp
      split
      · have := ih b; simp; omega
      · simp

theorem lcp_take (a b : List Int) (k : Nat) (h : k ≤ lcp a b) : a.take k <+: b := by
  induction a generalizing b k with
  | nil => simp
  | cons x a ih =>
    cases k with
    | zero => simp
    | succ k =>
      cases b with
      | nil => simp [lcp] at h
      | cons y b =>
        unfold lcp at h
        split at h
        · rename_i e
          subst e
          rw [List.take_succ_cons]
          exact (List.prefix_cons_inj x).2 (ih b k (by omega))
        · omega

theorem prefix_lcp {u a b : List Int} (h1 : u <+: a) (h2 : u <+: b) : u.length ≤ lcp a b := by
  induction u generalizing a b with
  | nil => simp
  | cons x u ih =>
    cases a with
    | nil => simp at h1
    | cons y a =>
      cases b with
      | nil => simp at h2
      | cons z b =>
        rw [List.cons_prefix_cons] at h1 h2
        obtain ⟨rfl, h1⟩ := h1
        obtain ⟨rfl, h2⟩ := h2
        unfold lcp
        rw [if_pos rfl]
        have := ih h1 h2
        simp; omega

/-- What starts two texts starts every text between them. -/
theorem prefix_between {u a b c : List Int} (h1 : u <+: a) (h2 : u <+: c) (hab : cmpR a b ≤ 0) (hbc : cmpR b c ≤ 0) : u <+: b := by
  induction u generalizing a b c with
  | nil => simp
  | cons x u ih =>
    cases a with
    | nil => simp at h1
    | cons y a =>
      cases c with
      | nil => simp at h2
      | cons z c =>
        rw [List.cons_prefix_cons] at h1 h2
        obtain ⟨rfl, h1⟩ := h1
        obtain ⟨rfl, h2⟩ := h2
        cases b with
        | nil => simp [cmpR] at hab
        | cons y b =>
          unfold cmpR at hab hbc
          by_cases e1 : x < y
          · rw [if_neg (by omega), if_pos e1] at hbc; omega
          · by_cases e2 : y < x
            · rw [if_neg e1, if_pos e2] at hab; omega
            · have : x = y := by omega
              subst this
              rw [if_neg e1, if_neg e1] at hab hbc
              exact (List.prefix_cons_inj x).2 (ih h1 h2 hab hbc)

/-- What text number p shares with the one ahead of it. -/
def shr (t : Nat → List Int) : Nat → Nat
  | 0 => 0
  | p + 1 => lcp (t (p + 1)) (t p)

/-- The starts that text number p adds. -/
def newP (t : Nat → List Int) (p : Nat) : List (List Int) := (List.range ((t p).length - shr t p)).map fun i => (t p).take (shr t p + 1 + i)

/-- The starts of the first p texts, each once. -/
def upto (t : Nat → List Int) : Nat → List (List Int)
  | 0 => [[]]
  | p + 1 => upto t p ++ newP t p

/-- How many they are. -/
def cntTo (t : Nat → List Int) : Nat → Nat
  | 0 => 0
  | p + 1 => cntTo t p + ((t p).length - shr t p)

theorem upto_len (t : Nat → List Int) (p : Nat) : (upto t p).length = 1 + cntTo t p := by
  induction p with
  | zero => rfl
  | succ p ih => unfold upto cntTo; rw [List.length_append, ih]; simp [newP]; omega

theorem shr_le (t : Nat → List Int) (p : Nat) : shr t p ≤ (t p).length := by
  cases p with
  | zero => simp [shr]
  | succ p => exact lcp_le _ _

theorem mem_newP {t : Nat → List Int} {p : Nat} {u : List Int} : u ∈ newP t p ↔ u <+: t p ∧ shr t p < u.length := by
  unfold newP
  rw [List.mem_map]
  constructor
  · rintro ⟨i, hi, rfl⟩
    rw [List.mem_range] at hi
    refine ⟨List.take_prefix _ _, ?_⟩
    rw [List.length_take]
    omega
  · rintro ⟨h1, h2⟩
    have h3 := h1.length_le
    refine ⟨u.length - (shr t p + 1), List.mem_range.2 (by omega), ?_⟩
    rw [show shr t p + 1 + (u.length - (shr t p + 1)) = u.length from by omega]
    exact (List.prefix_iff_eq_take.1 h1).symm

theorem newP_nodup (t : Nat → List Int) (p : Nat) : (newP t p).Nodup := by
  unfold newP
  rw [List.nodup_iff_pairwise_ne, List.pairwise_map]
  refine List.Pairwise.imp_of_mem ?_ (List.nodup_iff_pairwise_ne.1 List.nodup_range)
  intro a b ha hb hne e
  rw [List.mem_range] at ha hb
  have := congrArg List.length e
  rw [List.length_take, List.length_take] at this
  omega

theorem upto_mem {t : Nat → List Int} {p : Nat} (u : List Int) : u ∈ upto t p ↔ u = [] ∨ ∃ q, q < p ∧ u <+: t q := by
  induction p with
  | zero => simp [upto]
  | succ p ih =>
    unfold upto
    rw [List.mem_append, ih, mem_newP]
    constructor
    · rintro ((h | ⟨q, h1, h2⟩) | ⟨h1, h2⟩)
      · exact .inl h
      · exact .inr ⟨q, by omega, h2⟩
      · exact .inr ⟨p, by omega, h1⟩
    · rintro (h | ⟨q, h1, h2⟩)
      · exact .inl (.inl h)
      · by_cases e : q = p
        · subst e
          by_cases hl : shr t q < u.length
          · exact .inr ⟨h2, hl⟩
          · left
            cases q with
            | zero =>
              left
              simp [shr] at hl
              exact hl
            | succ q =>
              right
              refine ⟨q, by omega, ?_⟩
              have := lcp_take (t (q + 1)) (t q) u.length (by have e : shr t (q + 1) = lcp (t (q + 1)) (t q) := rfl; omega)
              rw [← List.prefix_iff_eq_take.1 h2] at this
              exact this
        · exact .inl (.inr ⟨q, by omega, h2⟩)

theorem upto_nodup {t : Nat → List Int} {n : Nat} (hs : ∀ p q, p < q → q < n → cmpR (t p) (t q) ≤ 0) (p : Nat) (hp : p ≤ n) : (upto t p).Nodup := by
  induction p with
  | zero => simp [upto]
  | succ p ih =>
    unfold upto
    rw [List.nodup_append]
    refine ⟨ih (by omega), newP_nodup t p, fun a ha b hb => ?_⟩
    rintro rfl
    obtain ⟨h1, h2⟩ := mem_newP.1 hb
    rcases (upto_mem a).1 ha with e | ⟨q, hq, h3⟩
    · subst e; simp at h2
    · cases p with
      | zero => omega
      | succ p =>
        have hpre : a <+: t p := by
          by_cases e : q = p
          · subst e; exact h3
          · exact prefix_between h3 h1 (hs q p (by omega) (by omega)) (hs p (p + 1) (by omega) (by omega))
        have := prefix_lcp h1 hpre
        have e : shr t (p + 1) = lcp (t (p + 1)) (t p) := rfl
        omega

end Go.Proofs.Qxb6608903a.Plain
