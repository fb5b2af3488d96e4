/-
  The distinct starts of texts, in order: what zzDistinctStarts (23) gathers, with no Go in sight.
-/
import Derived.Test.Qxb6608903aRs
namespace Go.Proofs.Qxb6608903a.Ix
open Go.RowKit Mem Go.Sort Plain
open CmpW
open SortW hiding hid
set_option linter.unusedVariables false

/-- The fields of a row of starts. -/
def fA (E : List (Nat × Nat)) (j : Nat) : Nat := (E.getD j (0, 0)).1
def fL (E : List (Nat × Nat)) (j : Nat) : Nat := (E.getD j (0, 0)).2

/-- The label of a start. -/
def lab (T : List (List Int)) (e : Nat × Nat) : List Int := (tx T e.1).take e.2

/-- The starts of text i up to length l; of the first i texts. -/
def stB (i : Nat) : Nat → List (Nat × Nat)
  | 0 => []
  | l + 1 => stB i l ++ [(i, l + 1)]
def stA (T : List (List Int)) : Nat → List (Nat × Nat)
  | 0 => []
  | i + 1 => stA T i ++ stB i (tx T i).length

theorem stB_len (i : Nat) : ∀ l, (stB i l).length = l
  | 0 => rfl
  | l + 1 => by simp [stB, stB_len i l]

theorem stA_len (T : List (List Int)) : ∀ i, (stA T i).length = lenTo T i
  | 0 => rfl
  | i + 1 => by
    show (stA T i ++ stB i (tx T i).length).length = lenTo T i + (tx T i).length
    rw [List.length_append, stA_len T i, stB_len]

theorem stB_mem (i : Nat) (e : Nat × Nat) : ∀ l, e ∈ stB i l ↔ e.1 = i ∧ 1 ≤ e.2 ∧ e.2 ≤ l
  | 0 => by simp [stB]; omega
  | l + 1 => by
    unfold stB
    rw [List.mem_append, stB_mem i e l, List.mem_singleton]
    obtain ⟨a, b⟩ := e
    simp only [Prod.mk.injEq]
    omega

theorem stA_mem (T : List (List Int)) (e : Nat × Nat) : ∀ i, e ∈ stA T i ↔ e.1 < i ∧ 1 ≤ e.2 ∧ e.2 ≤ (tx T e.1).length
  | 0 => by simp [stA]
  | i + 1 => by
    unfold stA
    rw [List.mem_append, stA_mem T e i, stB_mem]
    constructor
    · rintro (⟨h1, h2, h3⟩ | ⟨h1, h2, h3⟩)
      · exact ⟨by omega, h2, h3⟩
      · exact ⟨by omega, h2, by rw [h1]; exact h3⟩
    · rintro ⟨h1, h2, h3⟩
      by_cases e1 : e.1 = i
      · exact .inr ⟨e1, h2, by rw [← e1]; exact h3⟩
      · exact .inl ⟨by omega, h2, h3⟩

theorem pget_mem {α : Type} {E : List α} {d : α} {j : Nat} (h : j < E.length) : E.getD j d ∈ E := by
  rw [List.getD_eq_getElem?_getD, List.getElem?_eq_getElem h]
  exact List.getElem_mem h

theorem pget_ex {α : Type} {E : List α} {d u : α} (h : u ∈ E) : ∃ i, i < E.length ∧ E.getD i d = u := by
  obtain ⟨i, hi, e⟩ := List.mem_iff_getElem.1 h
  exact ⟨i, hi, by rw [List.getD_eq_getElem?_getD, List.getElem?_eq_getElem hi]; exact e⟩

theorem pget_left {α : Type} {E F : List α} {d : α} {j : Nat} (h : j < E.length) : (E ++ F).getD j d = E.getD j d := by
  rw [List.getD_eq_getElem?_getD, List.getD_eq_getElem?_getD, List.getElem?_append_left h]

theorem pget_snoc {α : Type} {E : List α} {d u : α} : (E ++ [u]).getD E.length d = u := by
  rw [List.getD_eq_getElem?_getD, List.getElem?_append_right (Nat.le_refl _)]; simp

theorem cmpR_zero {u v : List Int} (h : cmpR u v = 0) : u = v := by
  induction u generalizing v with
  | nil => cases v with
    | nil => rfl
    | cons y v => simp [cmpR] at h
  | cons x u ih =>
    cases v with
    | nil => simp [cmpR] at h
    | cons y v =>
      simp only [cmpR] at h
      split at h
      · omega
      · split at h
        · omega
        · rw [ih h, show x = y from by omega]

theorem cmpS_zero {u v : List Int} (h : cmpS u v = 0) : u = v := by
  unfold cmpS at h
  split at h
  · exact cmpR_zero h
  · split at h <;> omega

theorem cmpS_slex {u v : List Int} (h : cmpS u v < 0) : slex u v := by
  unfold cmpS at h
  split at h
  · rename_i e; exact .inr ⟨e, h⟩
  · split at h
    · rename_i e; exact .inl e
    · omega

theorem cmpS_trans (a b c : List Int) (h1 : cmpS a b ≤ 0) (h2 : cmpS b c ≤ 0) : cmpS a c ≤ 0 := by
  unfold cmpS at *
  by_cases e1 : a.length = b.length
  · rw [if_pos e1] at h1
    by_cases e2 : b.length = c.length
    · rw [if_pos e2] at h2
      rw [if_pos (e1.trans e2)]
      exact cmpR_trans a b c h1 h2
    · rw [if_neg e2] at h2
      rw [if_neg (by omega)]
      by_cases e3 : b.length < c.length
      · rw [if_pos (by omega)]; decide
      · rw [if_neg e3] at h2; omega
  · rw [if_neg e1] at h1
    by_cases e3 : a.length < b.length
    · by_cases e2 : b.length = c.length
      · rw [if_neg (by omega), if_pos (by omega)]; decide
      · rw [if_neg e2] at h2
        by_cases e4 : b.length < c.length
        · rw [if_neg (by omega), if_pos (by omega)]; decide
        · rw [if_neg e4] at h2; omega
    · rw [if_neg e3] at h1; omega

theorem slex_trans {a b c : List Int} (h1 : slex a b) (h2 : slex b c) : slex a c := by
  have h := cmpS_trans a b c (Int.le_of_lt (slex_cmpS h1)) (Int.le_of_lt (slex_cmpS h2))
  by_cases h0 : cmpS a c = 0
  · exact absurd h2 (fun k => slex_anti h1 (by rw [cmpS_zero h0]; exact k))
  · exact cmpS_slex (by omega)

/-- Half way: of the first p starts in order (K p is start number p), each label once. -/
structure DD (T : List (List Int)) (K : Nat → Nat × Nat) (p : Nat) (O : List (Nat × Nat)) : Prop where
  len : O.length ≤ p
  sub : ∀ e ∈ O, e.1 < T.length ∧ 1 ≤ e.2 ∧ e.2 ≤ (tx T e.1).length
  srt : (O.map (lab T)).Pairwise slex
  last : 0 < p → ∃ O' e, O = O' ++ [e] ∧ lab T e = lab T (K (p - 1))
  mem : ∀ q, q < p → lab T (K q) ∈ O.map (lab T)

theorem DD.start (T : List (List Int)) (K : Nat → Nat × Nat) : DD T K 0 [] := ⟨by simp, fun e he => by simp at he, by simp, fun h => absurd h (by omega), fun q h => by omega⟩

theorem DD.new {T : List (List Int)} {K : Nat → Nat × Nat} {p : Nat} {O : List (Nat × Nat)} (h : DD T K p O) (hK : (K p).1 < T.length ∧ 1 ≤ (K p).2 ∧ (K p).2 ≤ (tx T (K p).1).length) (hc : p = 0 ∨ cmpS (lab T (K (p - 1))) (lab T (K p)) < 0) : DD T K (p + 1) (O ++ [K p]) where
  len := by have := h.len; simp; exact this
  sub := fun e he => by
    rcases List.mem_append.1 he with h1 | h1
    · exact h.sub e h1
    · rw [List.mem_singleton.1 h1]; exact hK
  srt := by
    rw [List.map_append, List.pairwise_append]
    refine ⟨h.srt, by simp, fun a ha b hb => ?_⟩
    simp at hb
    subst hb
    by_cases hp : p = 0
    · subst hp
      have := h.len
      have : O = [] := by cases O with
        | nil => rfl
        | cons x O => simp at this
      subst this; simp at ha
    · have hs : slex (lab T (K (p - 1))) (lab T (K p)) := cmpS_slex (by rcases hc with h1 | h1; exact absurd h1 hp; exact h1)
      obtain ⟨O', e, rfl, he⟩ := h.last (by omega)
      have hsrt := h.srt
      rw [List.map_append, List.pairwise_append] at hsrt
      rw [List.map_append, List.mem_append] at ha
      rcases ha with ha | ha
      · have := hsrt.2.2 a ha (lab T e) (by simp)
        rw [he] at this
        exact slex_trans this hs
      · simp at ha; subst ha; rw [he]; exact hs
  last := fun _ => ⟨O, K p, rfl, by rw [Nat.add_sub_cancel]⟩
  mem := fun q hq => by
    rw [List.map_append, List.mem_append]
    by_cases e : q = p
    · subst e; right; simp
    · left; exact h.mem q (by omega)

theorem DD.same {T : List (List Int)} {K : Nat → Nat × Nat} {p : Nat} {O : List (Nat × Nat)} (h : DD T K p O) (hp : p ≠ 0) (hc : cmpS (lab T (K (p - 1))) (lab T (K p)) = 0) : DD T K (p + 1) O where
  len := by have := h.len; omega
  sub := h.sub
  srt := h.srt
  last := fun _ => by
    obtain ⟨O', e, e1, he⟩ := h.last (by omega)
    exact ⟨O', e, e1, by rw [he, Nat.add_sub_cancel]; exact cmpS_zero hc⟩
  mem := fun q hq => by
    by_cases e : q = p
    · subst e
      rw [← cmpS_zero hc]
      exact h.mem (q - 1) (by omega)
    · exact h.mem q (by omega)

/-- All starts gathered: the labels of the trie's nodes behind the root. -/
theorem DD.done {T M : List (List Int)} {I : Nat → Nat} {O : List (Nat × Nat)} (h : DD T (fun p => (stA T T.length).getD (I p) (0, 0)) (lenTo T T.length) O) (hI : (seg I 0 (lenTo T T.length)).Perm (List.range (lenTo T T.length)))
    (hM : BF (bldTo T T.length) M M.length) : DL T M O.length (fA O) (fL O) := by
  have hMS := hM.sorted
  have hOn : ([] :: O.map (lab T)).Pairwise slex := by
    rw [List.pairwise_cons]
    refine ⟨fun u hu => ?_, h.srt⟩
    obtain ⟨e, he, rfl⟩ := List.mem_map.1 hu
    obtain ⟨h1, h2, h3⟩ := h.sub e he
    left
    unfold lab
    rw [List.length_take, List.length_nil]; omega
  have hmem : ∀ u, u ∈ M ↔ u ∈ [] :: O.map (lab T) := fun u => by
    rw [hM.all (bldTo_tr T T.length), bldTo_mem, List.mem_cons]
    constructor
    · rintro (h1 | ⟨j, hj, hu⟩)
      · exact .inl h1
      · by_cases h0 : u = []
        · exact .inl h0
        · right
          have hl : u.length ≠ 0 := fun e => h0 (List.length_eq_zero_iff.1 e)
          have hul := hu.length_le
          have hin : (j, u.length) ∈ stA T T.length := (stA_mem T _ _).2 ⟨hj, by show 1 ≤ u.length; omega, hul⟩
          obtain ⟨x, hx, ex⟩ := pget_ex (d := (0, 0)) hin
          rw [stA_len] at hx
          have hxI : x ∈ seg I 0 (lenTo T T.length) := hI.mem_iff.2 (List.mem_range.2 hx)
          obtain ⟨q, hq, eq⟩ : ∃ q, q < lenTo T T.length ∧ I q = x := by
            unfold seg at hxI
            obtain ⟨q, hq, e⟩ := List.mem_map.1 hxI
            exact ⟨q, List.mem_range.1 (by simpa using hq), by simpa using e⟩
          have := h.mem q hq
          rw [eq, ex] at this
          unfold lab at this
          rw [prefix_iff_take.1 hu]
          exact this
    · rintro (h1 | h1)
      · exact .inl h1
      · obtain ⟨e, he, rfl⟩ := List.mem_map.1 h1
        exact .inr ⟨e.1, (h.sub e he).1, List.take_prefix _ _⟩
  have hp : M.Perm ([] :: O.map (lab T)) := (List.perm_ext_iff_of_nodup (slex_nodup hMS) (slex_nodup hOn)).2 hmem
  have hE : M = [] :: O.map (lab T) := hp.eq_of_pairwise (fun a b _ _ h1 h2 => absurd h2 (fun k => slex_anti h1 k)) hMS hOn
  refine ⟨by rw [hE]; simp, fun x hx => ?_, fun x hx => ?_, hMS, by rw [hE]; rfl⟩
  · have := h.sub _ (pget_mem (d := (0, 0)) hx)
    exact ⟨this.1, this.2.2⟩
  · rw [hE, List.getD_cons_succ, List.getD_eq_getElem?_getD, List.getElem?_map]
    unfold fA fL lab
    rw [List.getD_eq_getElem?_getD, List.getElem?_eq_getElem hx]
    rfl

end Go.Proofs.Qxb6608903a.Ix
