/-
  THE PLAIN PART, A: the labels of a trie in the order in which they are put in; the chains of children. No Go in sight.
-/
namespace Go.Proofs.Qxb6608903a.Plain
set_option linter.unusedVariables false

/-- v is a child of u. -/
def isKid (u v : List Int) : Bool := v.length == u.length + 1 && v.dropLast == u

theorem isKid_iff {u v : List Int} : isKid u v = true ↔ ∃ r, v = u ++ [r] := by
  unfold isKid
  simp only [Bool.and_eq_true, beq_iff_eq]
  constructor
  · rintro ⟨h1, h2⟩
    have hne : v ≠ [] := by intro h; subst h; simp at h1
    exact ⟨v.getLast hne, by rw [← h2]; exact (List.dropLast_concat_getLast hne).symm⟩
  · rintro ⟨r, rfl⟩
    simp

theorem isKid_snoc (u : List Int) (r : Int) : isKid u (u ++ [r]) = true := isKid_iff.2 ⟨r, rfl⟩

theorem isKid_snoc_iff {u v : List Int} {r : Int} : isKid u (v ++ [r]) = true ↔ u = v := by
  constructor
  · intro h
    obtain ⟨r', h'⟩ := isKid_iff.1 h
    exact (List.append_inj' h' rfl).1.symm
  · rintro rfl; exact isKid_snoc _ _

theorem isKid_nil (u : List Int) : isKid u [] = false := by
  unfold isKid; simp

/-- The last character; 0 of the empty label. -/
def lastC (v : List Int) : Int := v.getLastD 0

theorem lastC_snoc (u : List Int) (r : Int) : lastC (u ++ [r]) = r := by
  unfold lastC; simp

theorem lastC_nil : lastC [] = 0 := rfl

theorem kid_ext {u v v' : List Int} (h : isKid u v = true) (h' : isKid u v' = true) (e : lastC v = lastC v') : v = v' := by
  obtain ⟨r, rfl⟩ := isKid_iff.1 h
  obtain ⟨r', rfl⟩ := isKid_iff.1 h'
  rw [lastC_snoc, lastC_snoc] at e
  rw [e]

/-- The next child of u from place c on; 0 where there is none. -/
def nx (S : List (List Int)) (u : List Int) (c : Nat) : Nat :=
  ((List.range S.length).find? (fun i => decide (c ≤ i) && isKid u (S.getD i []))).getD 0

/-- What 'nx' is. -/
def NxSpec (S : List (List Int)) (u : List Int) (c r : Nat) : Prop :=
  (r = 0 ∧ ∀ i, c ≤ i → i < S.length → isKid u (S.getD i []) = false) ∨
  (c ≤ r ∧ r < S.length ∧ isKid u (S.getD r []) = true ∧ ∀ i, c ≤ i → i < r → isKid u (S.getD i []) = false)

theorem nx_spec (S : List (List Int)) (u : List Int) (c : Nat) : NxSpec S u c (nx S u c) := by
  unfold nx
  cases h : (List.range S.length).find? (fun i => decide (c ≤ i) && isKid u (S.getD i [])) with
  | none =>
    left
    refine ⟨rfl, fun i h1 h2 => ?_⟩
    have := (List.find?_eq_none.1 h) i (List.mem_range.2 h2)
    simp only [Bool.and_eq_true, decide_eq_true_eq, not_and, Bool.not_eq_true] at this
    exact this h1
  | some r =>
    right
    obtain ⟨h1, h2, h3⟩ := List.find?_range_eq_some.1 h
    simp only [Bool.and_eq_true, decide_eq_true_eq] at h1
    refine ⟨h1.1, List.mem_range.1 h2, h1.2, fun i hi hi' => ?_⟩
    have := h3 i hi'
    simp only [Bool.not_and, Bool.or_eq_true, Bool.not_eq_eq_eq_not, Bool.not_true, decide_eq_false_iff_not] at this
    rcases this with h | h
    · exact absurd hi h
    · exact h

theorem nx_uniq {S : List (List Int)} {u : List Int} {c r r' : Nat} (hc : 1 ≤ c) (h : NxSpec S u c r) (h' : NxSpec S u c r') : r = r' := by
  rcases h with ⟨h1, h2⟩ | ⟨h1, h2, h3, h4⟩ <;> rcases h' with ⟨g1, g2⟩ | ⟨g1, g2, g3, g4⟩
  · omega
  · rw [h2 r' g1 g2] at g3; exact absurd g3 (by simp)
  · rw [g2 r h1 h2] at h3; exact absurd h3 (by simp)
  · rcases Nat.lt_trichotomy r r' with h | h | h
    · rw [g4 r h1 h] at h3; exact absurd h3 (by simp)
    · exact h
    · rw [h4 r' g1 h] at g3; exact absurd g3 (by simp)

theorem nx_eq {S : List (List Int)} {u : List Int} {c r : Nat} (hc : 1 ≤ c) (h : NxSpec S u c r) : nx S u c = r := nx_uniq hc (nx_spec S u c) h

/-- The first child of the node at place c. -/
def fc (S : List (List Int)) (c : Nat) : Nat := nx S (S.getD c []) 1
/-- The next sibling of the node at place c. -/
def ns (S : List (List Int)) (c : Nat) : Nat := if c = 0 then 0 else nx S (S.getD c []).dropLast (c + 1)

/-- A trie's labels: the root first, none twice, each start of a label among them. -/
structure Tr (S : List (List Int)) : Prop where
  pos : 0 < S.length
  head : S.getD 0 [] = []
  nodup : S.Nodup
  closed : ∀ v r, v ++ [r] ∈ S → v ∈ S

theorem getD_mem {S : List (List Int)} {i : Nat} (h : i < S.length) : S.getD i [] ∈ S := by
  rw [List.getD_eq_getElem?_getD, List.getElem?_eq_getElem h]
  exact List.getElem_mem h

theorem getD_inj {S : List (List Int)} (hn : S.Nodup) {i j : Nat} (hi : i < S.length) (hj : j < S.length) (h : S.getD i [] = S.getD j []) : i = j := by
  rw [List.getD_eq_getElem?_getD, List.getD_eq_getElem?_getD, List.getElem?_eq_getElem hi, List.getElem?_eq_getElem hj] at h
  exact (List.getElem?_inj hi hn).1 (by rw [List.getElem?_eq_getElem hi, List.getElem?_eq_getElem hj]; exact congrArg some h)

theorem exists_getD {S : List (List Int)} {u : List Int} (h : u ∈ S) : ∃ i, i < S.length ∧ S.getD i [] = u := by
  obtain ⟨i, hi, e⟩ := List.mem_iff_getElem.1 h
  exact ⟨i, hi, by rw [List.getD_eq_getElem?_getD, List.getElem?_eq_getElem hi]; exact e⟩

theorem getD_append_left' {S : List (List Int)} {R : List (List Int)} {i : Nat} (h : i < S.length) : (S ++ R).getD i [] = S.getD i [] := by
  rw [List.getD_eq_getElem?_getD, List.getD_eq_getElem?_getD, List.getElem?_append_left h]

theorem getD_snoc {S : List (List Int)} {v : List Int} : (S ++ [v]).getD S.length [] = v := by
  rw [List.getD_eq_getElem?_getD, List.getElem?_append_right (Nat.le_refl _)]; simp

/-- A new label is put in. -/
theorem Tr.snoc {S : List (List Int)} (h : Tr S) {u : List Int} {r : Int} (hu : u ∈ S) (hv : u ++ [r] ∉ S) : Tr (S ++ [u ++ [r]]) where
  pos := by simp
  head := by rw [getD_append_left' h.pos]; exact h.head
  nodup := by
    rw [List.nodup_append]
    refine ⟨h.nodup, by simp, fun a ha b hb => ?_⟩
    simp at hb
    rintro rfl
    exact hv (hb ▸ ha)
  closed := fun v r' hm => by
    rw [List.mem_append] at hm ⊢
    rcases hm with hm | hm
    · exact .inl (h.closed v r' hm)
    · simp at hm
      left
      rw [hm.1]; exact hu

/-- Of a new label the chains: what turns and what stays. -/
theorem nx_old {S : List (List Int)} {u : List Int} {c : Nat} (hc : 1 ≤ c) {v : List Int} (hne : nx S u c ≠ 0 ∨ isKid u v = false) : nx (S ++ [v]) u c = nx S u c := by
  refine nx_eq hc ?_
  rcases nx_spec S u c with ⟨h1, h2⟩ | ⟨h1, h2, h3, h4⟩
  · left
    refine ⟨h1, fun i hi hi' => ?_⟩
    rw [List.length_append] at hi'
    simp at hi'
    by_cases e : i < S.length
    · rw [getD_append_left' e]; exact h2 i hi e
    · have e' : i = S.length := by omega
      rw [e', getD_snoc]
      rcases hne with hne | hne
      · exact absurd h1 hne
      · exact hne
  · right
    refine ⟨h1, by simp; omega, by rw [getD_append_left' h2]; exact h3, fun i hi hi' => ?_⟩
    rw [getD_append_left' (by omega)]; exact h4 i hi hi'

theorem nx_new {S : List (List Int)} {u : List Int} {c : Nat} (hc : 1 ≤ c) (hcl : c ≤ S.length) {v : List Int} (h0 : nx S u c = 0) (hk : isKid u v = true) : nx (S ++ [v]) u c = S.length := by
  refine nx_eq hc ?_
  rcases nx_spec S u c with ⟨h1, h2⟩ | ⟨h1, h2, h3, h4⟩
  · right
    refine ⟨hcl, by simp, by rw [getD_snoc]; exact hk, fun i hi hi' => ?_⟩
    rw [getD_append_left' hi']; exact h2 i hi hi'
  · omega

theorem fc_new_self {S : List (List Int)} (h : Tr S) {n : Nat} {r : Int} (hv : S.getD n [] ++ [r] ∉ S) : fc (S ++ [S.getD n [] ++ [r]]) S.length = 0 := by
  unfold fc
  rw [getD_snoc]
  refine nx_eq (Nat.le_refl _) (.inl ⟨rfl, fun i hi hi' => ?_⟩)
  rw [Bool.eq_false_iff]
  intro hk
  rw [List.length_append] at hi'
  simp at hi'
  by_cases e : i < S.length
  · rw [getD_append_left' e] at hk
    obtain ⟨r', hr⟩ := isKid_iff.1 hk
    exact hv (h.closed _ r' (hr ▸ getD_mem e))
  · have e' : i = S.length := by omega
    rw [e', getD_snoc] at hk
    obtain ⟨r', hr⟩ := isKid_iff.1 hk
    have := congrArg List.length hr
    simp at this

theorem ns_new_self {S : List (List Int)} (h : Tr S) {n : Nat} {r : Int} : ns (S ++ [S.getD n [] ++ [r]]) S.length = 0 := by
  unfold ns
  have := h.pos
  rw [if_neg (by omega)]
  refine nx_eq (by omega) (.inl ⟨rfl, fun i hi hi' => ?_⟩)
  rw [List.length_append] at hi'
  simp at hi'
  omega

/-- What lies in the chain node at place c: its character, its first child, its next sibling. -/
def chCell (S : List (List Int)) (c i : Nat) : Int := if i = 0 then lastC (S.getD c []) else if i = 1 then fc S c else ns S c

theorem ne_nil_of_pos {S : List (List Int)} (h : Tr S) {c : Nat} (hc : c < S.length) (h0 : c ≠ 0) : S.getD c [] ≠ [] := by
  intro e
  exact h0 (getD_inj h.nodup hc h.pos (by rw [e, h.head]))

theorem kid_parent {S : List (List Int)} (h : Tr S) {c : Nat} (hc : c < S.length) (h0 : c ≠ 0) : isKid (S.getD c []).dropLast (S.getD c []) = true :=
  isKid_iff.2 ⟨(S.getD c []).getLast (ne_nil_of_pos h hc h0), (List.dropLast_concat_getLast _).symm⟩

theorem kid_pos {S : List (List Int)} (h : Tr S) {u : List Int} {c : Nat} (hk : isKid u (S.getD c []) = true) : c ≠ 0 := by
  rintro rfl
  rw [h.head, isKid_nil] at hk
  exact absurd hk (by simp)

theorem isKid_parent {u v : List Int} (h : isKid u v = true) : v.dropLast = u := by
  obtain ⟨r, rfl⟩ := isKid_iff.1 h
  simp

/-- The state of the search through a chain of children of the node at n for the character r. -/
structure Seek (S : List (List Int)) (n : Nat) (r : Int) (last next : Nat) : Prop where
  nxt : next = nx S (S.getD n []) (last + 1)
  lst : last = 0 ∨ (last < S.length ∧ isKid (S.getD n []) (S.getD last []) = true)
  seen : ∀ c, 1 ≤ c → c ≤ last → isKid (S.getD n []) (S.getD c []) = true → lastC (S.getD c []) ≠ r

theorem Seek.start (S : List (List Int)) (n : Nat) (r : Int) : Seek S n r 0 (fc S n) :=
  ⟨rfl, .inl rfl, fun c h1 h2 => by omega⟩

theorem Seek.spec {S : List (List Int)} {n : Nat} {r : Int} {last next : Nat} (h : Seek S n r last next) : NxSpec S (S.getD n []) (last + 1) next := by
  rw [h.nxt]; exact nx_spec _ _ _

theorem Seek.lt {S : List (List Int)} {n : Nat} {r : Int} {last next : Nat} (h : Seek S n r last next) (h0 : next ≠ 0) : last < next ∧ next < S.length ∧ isKid (S.getD n []) (S.getD next []) = true := by
  rcases h.spec with ⟨h1, _⟩ | ⟨h1, h2, h3, _⟩
  · exact absurd h1 h0
  · exact ⟨by omega, h2, h3⟩

theorem Seek.step {S : List (List Int)} (ht : Tr S) {n : Nat} {r : Int} {last next : Nat} (h : Seek S n r last next) (h0 : next ≠ 0) (hr : lastC (S.getD next []) ≠ r) : Seek S n r next (ns S next) := by
  obtain ⟨h1, h2, h3⟩ := h.lt h0
  refine ⟨?_, .inr ⟨h2, h3⟩, fun c hc hc' hk => ?_⟩
  · unfold ns
    rw [if_neg h0, isKid_parent h3]
  · by_cases e : c ≤ last
    · exact h.seen c hc e hk
    · by_cases e' : c = next
      · rw [e']; exact hr
      · rcases h.spec with ⟨g1, _⟩ | ⟨_, _, _, g4⟩
        · exact absurd g1 h0
        · rw [g4 c (by omega) (by omega)] at hk; exact absurd hk (by simp)

theorem Seek.found {S : List (List Int)} {n : Nat} {r : Int} {last next : Nat} (h : Seek S n r last next) (h0 : next ≠ 0) (hr : lastC (S.getD next []) = r) : S.getD next [] = S.getD n [] ++ [r] := by
  obtain ⟨_, _, h3⟩ := h.lt h0
  obtain ⟨r', e⟩ := isKid_iff.1 h3
  rw [e, lastC_snoc] at hr
  rw [e, hr]

theorem Seek.none {S : List (List Int)} (ht : Tr S) {n : Nat} {r : Int} {last : Nat} (h : Seek S n r last 0) : S.getD n [] ++ [r] ∉ S := by
  intro hm
  obtain ⟨c, hc, e⟩ := exists_getD hm
  have hk : isKid (S.getD n []) (S.getD c []) = true := by rw [e]; exact isKid_snoc _ _
  have hp := kid_pos ht hk
  by_cases hl : c ≤ last
  · exact h.seen c (by omega) hl hk (by rw [e, lastC_snoc])
  · rcases h.spec with ⟨_, g2⟩ | ⟨g1, _⟩
    · rw [g2 c (by omega) hc] at hk; exact absurd hk (by simp)
    · omega

theorem isKid_other {S : List (List Int)} (h : Tr S) {n c : Nat} (hn : n < S.length) (hc : c < S.length) (hne : c ≠ n) {r : Int} : isKid (S.getD c []) (S.getD n [] ++ [r]) = false := by
  rw [Bool.eq_false_iff]
  intro hk
  exact hne (getD_inj h.nodup hc hn (isKid_snoc_iff.1 hk))

/-- A label is put in where its parent had no child: the cells. -/
theorem chCell_first {S : List (List Int)} (h : Tr S) {n : Nat} (hn : n < S.length) {r : Int} (hs : Seek S n r 0 0) (c i : Nat) (hc : c < S.length + 1) (hi : i < 3) :
    chCell (S ++ [S.getD n [] ++ [r]]) c i = if c = n ∧ i = 1 then (S.length : Int) else if c < S.length then chCell S c i else if i = 0 then r else 0 := by
  have hv := hs.none h
  have hno : nx S (S.getD n []) 1 = 0 := hs.nxt.symm
  by_cases hcl : c < S.length
  · rw [if_pos hcl]
    have hg : (S ++ [S.getD n [] ++ [r]]).getD c [] = S.getD c [] := getD_append_left' hcl
    unfold chCell
    by_cases h0 : i = 0
    · rw [if_pos h0, if_pos h0, if_neg (by omega), hg]
    · rw [if_neg h0, if_neg h0]
      by_cases h1 : i = 1
      · rw [if_pos h1, if_pos h1]
        unfold fc
        rw [hg]
        by_cases hcn : c = n
        · subst hcn
          rw [if_pos ⟨rfl, h1⟩, nx_new (Nat.le_refl _) (by omega) hno (isKid_snoc _ _)]
        · rw [if_neg (by omega), nx_old (Nat.le_refl _) (.inr (isKid_other h hn hcl hcn))]
      · rw [if_neg h1, if_neg h1, if_neg (by omega)]
        unfold ns
        by_cases hz : c = 0
        · rw [if_pos hz, if_pos hz]
        · rw [if_neg hz, if_neg hz, hg]
          rw [nx_old (by omega) (.inr ?_)]
          rw [Bool.eq_false_iff]
          intro hk
          have e := isKid_snoc_iff.1 hk
          have hk' := kid_parent h hcl hz
          rw [e] at hk'
          rcases hs.spec with ⟨_, g2⟩ | ⟨g1, _⟩
          · rw [g2 c (by omega) hcl] at hk'; exact absurd hk' (by simp)
          · omega
  · obtain rfl : c = S.length := by omega
    rw [if_neg hcl, if_neg (by omega)]
    unfold chCell
    by_cases h0 : i = 0
    · rw [if_pos h0, if_pos h0, getD_snoc, lastC_snoc]
    · rw [if_neg h0, if_neg h0]
      by_cases h1 : i = 1
      · rw [if_pos h1, fc_new_self h hv]; rfl
      · rw [if_neg h1, ns_new_self h]; rfl

/-- A label is put in behind its parent's last child: the cells. -/
theorem chCell_next {S : List (List Int)} (h : Tr S) {n : Nat} (hn : n < S.length) {r : Int} {last : Nat} (hl : last ≠ 0) (hs : Seek S n r last 0) (c i : Nat) (hc : c < S.length + 1) (hi : i < 3) :
    chCell (S ++ [S.getD n [] ++ [r]]) c i = if c = last ∧ i = 2 then (S.length : Int) else if c < S.length then chCell S c i else if i = 0 then r else 0 := by
  have hv := hs.none h
  have hno : nx S (S.getD n []) (last + 1) = 0 := hs.nxt.symm
  obtain ⟨hll, hlk⟩ : last < S.length ∧ isKid (S.getD n []) (S.getD last []) = true := by
    rcases hs.lst with e | e
    · exact absurd e hl
    · exact e
  by_cases hcl : c < S.length
  · rw [if_pos hcl]
    have hg : (S ++ [S.getD n [] ++ [r]]).getD c [] = S.getD c [] := getD_append_left' hcl
    unfold chCell
    by_cases h0 : i = 0
    · rw [if_pos h0, if_pos h0, if_neg (by omega), hg]
    · rw [if_neg h0, if_neg h0]
      by_cases h1 : i = 1
      · rw [if_pos h1, if_pos h1, if_neg (by omega)]
        unfold fc
        rw [hg]
        by_cases hcn : c = n
        · subst hcn
          rw [nx_old (Nat.le_refl _) (.inl ?_)]
          intro e
          rcases nx_spec S (S.getD c []) 1 with ⟨_, g2⟩ | ⟨g1, _⟩
          · rw [g2 last (by omega) hll] at hlk; exact absurd hlk (by simp)
          · omega
        · rw [nx_old (Nat.le_refl _) (.inr (isKid_other h hn hcl hcn))]
      · rw [if_neg h1, if_neg h1]
        have h2 : i = 2 := by omega
        unfold ns
        by_cases hz : c = 0
        · rw [if_pos hz, if_pos hz, if_neg (by omega)]
        · rw [if_neg hz, if_neg hz, hg]
          by_cases hcl' : c = last
          · subst hcl'
            rw [if_pos ⟨rfl, h2⟩, isKid_parent hlk, nx_new (by omega) (by omega) hno (isKid_snoc _ _)]
          · rw [if_neg (by omega)]
            by_cases hp : (S.getD c []).dropLast = S.getD n []
            · rw [hp]
              have hk' := kid_parent h hcl hz
              rw [hp] at hk'
              rw [nx_old (by omega) (.inl ?_)]
              intro e
              rcases nx_spec S (S.getD n []) (c + 1) with ⟨_, g2⟩ | ⟨g1, _⟩
              · by_cases hlt : c < last
                · rw [g2 last (by omega) hll] at hlk; exact absurd hlk (by simp)
                · rcases hs.spec with ⟨_, k2⟩ | ⟨k1, _⟩
                  · rw [k2 c (by omega) hcl] at hk'; exact absurd hk' (by simp)
                  · omega
              · omega
            · rw [nx_old (by omega) (.inr ?_)]
              rw [Bool.eq_false_iff]
              intro hk
              exact hp (isKid_snoc_iff.1 hk)
  · obtain rfl : c = S.length := by omega
    rw [if_neg hcl, if_neg (by omega)]
    unfold chCell
    by_cases h0 : i = 0
    · rw [if_pos h0, if_pos h0, getD_snoc, lastC_snoc]
    · rw [if_neg h0, if_neg h0]
      by_cases h1 : i = 1
      · rw [if_pos h1, fc_new_self h hv]; rfl
      · rw [if_neg h1, ns_new_self h]; rfl

/-! ### The texts put in -/

/-- The labels behind the first k characters of t. -/
def insTo (S : List (List Int)) (t : List Int) : Nat → List (List Int)
  | 0 => S
  | k + 1 => if t.take (k + 1) ∈ insTo S t k then insTo S t k else insTo S t k ++ [t.take (k + 1)]

/-- The labels behind the first i texts. -/
def bldTo (T : List (List Int)) : Nat → List (List Int)
  | 0 => [[]]
  | i + 1 => insTo (bldTo T i) (T.getD i []) (T.getD i []).length

theorem take_snoc_getD {t : List Int} {k : Nat} (h : k < t.length) : t.take (k + 1) = t.take k ++ [t.getD k 0] := by
  rw [List.take_succ_eq_append_getElem h, List.getD_eq_getElem?_getD, List.getElem?_eq_getElem h]; rfl

theorem insTo_tr {S : List (List Int)} (h : Tr S) (t : List Int) (k : Nat) (hk : k ≤ t.length) : Tr (insTo S t k) ∧ t.take k ∈ insTo S t k := by
  induction k with
  | zero =>
    refine ⟨h, ?_⟩
    have := getD_mem h.pos
    rw [h.head] at this
    simpa [insTo] using this
  | succ k ih =>
    obtain ⟨h1, h2⟩ := ih (by omega)
    unfold insTo
    split
    · exact ⟨h1, by assumption⟩
    · refine ⟨?_, by simp⟩
      rw [take_snoc_getD (by omega)] at *
      exact h1.snoc h2 (by assumption)

theorem insTo_len (S : List (List Int)) (t : List Int) (k : Nat) : (insTo S t k).length ≤ S.length + k ∧ S.length ≤ (insTo S t k).length := by
  induction k with
  | zero => simp [insTo]
  | succ k ih =>
    unfold insTo
    split
    · omega
    · simp; omega

theorem insTo_mem (S : List (List Int)) (t : List Int) (k : Nat) (u : List Int) : u ∈ insTo S t k ↔ u ∈ S ∨ ∃ j, 1 ≤ j ∧ j ≤ k ∧ u = t.take j := by
  induction k with
  | zero =>
    simp only [insTo]
    constructor
    · exact .inl
    · rintro (h | ⟨j, h1, h2, _⟩)
      · exact h
      · omega
  | succ k ih =>
    unfold insTo
    split
    · rename_i hm
      rw [ih]
      constructor
      · rintro (h | ⟨j, h1, h2, e⟩)
        · exact .inl h
        · exact .inr ⟨j, h1, by omega, e⟩
      · rintro (h | ⟨j, h1, h2, e⟩)
        · exact .inl h
        · by_cases hj : j = k + 1
          · subst hj; rw [← ih, e]; exact hm
          · exact .inr ⟨j, h1, by omega, e⟩
    · rw [List.mem_append, ih]
      constructor
      · rintro ((h | ⟨j, h1, h2, e⟩) | h)
        · exact .inl h
        · exact .inr ⟨j, h1, by omega, e⟩
        · simp at h; exact .inr ⟨k + 1, by omega, by omega, h⟩
      · rintro (h | ⟨j, h1, h2, e⟩)
        · exact .inl (.inl h)
        · by_cases hj : j = k + 1
          · subst hj; exact .inr (by simp [e])
          · exact .inl (.inr ⟨j, h1, by omega, e⟩)

theorem tr_one : Tr [[]] where
  pos := by simp
  head := rfl
  nodup := by simp
  closed := fun v r h => by simp at h

theorem bldTo_tr (T : List (List Int)) (i : Nat) : Tr (bldTo T i) := by
  induction i with
  | zero => exact tr_one
  | succ i ih => exact (insTo_tr ih _ _ (Nat.le_refl _)).1

/-- The sum of the first i lengths. -/
def lenTo (T : List (List Int)) : Nat → Nat
  | 0 => 0
  | i + 1 => lenTo T i + (T.getD i []).length

theorem lenTo_mono (T : List (List Int)) {i j : Nat} (h : i ≤ j) : lenTo T i ≤ lenTo T j := by
  induction j with
  | zero => obtain rfl : i = 0 := by omega
            exact Nat.le_refl _
  | succ j ih =>
    by_cases e : i = j + 1
    · rw [e]; exact Nat.le_refl _
    · exact Nat.le_trans (ih (by omega)) (Nat.le_add_right _ _)

theorem bldTo_len (T : List (List Int)) (i : Nat) : (bldTo T i).length ≤ 1 + lenTo T i := by
  induction i with
  | zero => simp [bldTo, lenTo]
  | succ i ih =>
    have := (insTo_len (bldTo T i) (T.getD i []) (T.getD i []).length).1
    unfold bldTo lenTo
    omega

theorem prefix_iff_take {u t : List Int} : u <+: t ↔ u = t.take u.length := by
  exact List.prefix_iff_eq_take

theorem bldTo_mem (T : List (List Int)) (i : Nat) (u : List Int) : u ∈ bldTo T i ↔ u = [] ∨ ∃ j, j < i ∧ u <+: T.getD j [] := by
  induction i with
  | zero => simp [bldTo]
  | succ i ih =>
    unfold bldTo
    rw [insTo_mem, ih]
    constructor
    · rintro ((h | ⟨j, h1, h2⟩) | ⟨j, h1, h2, e⟩)
      · exact .inl h
      · exact .inr ⟨j, by omega, h2⟩
      · exact .inr ⟨i, by omega, by rw [e]; exact List.take_prefix _ _⟩
    · rintro (h | ⟨j, h1, h2⟩)
      · exact .inl (.inl h)
      · by_cases hj : j = i
        · subst hj
          by_cases h0 : u = []
          · exact .inl (.inl h0)
          · refine .inr ⟨u.length, ?_, h2.length_le, prefix_iff_take.1 h2⟩
            cases u with
            | nil => exact absurd rfl h0
            | cons a l => simp
        · exact .inl (.inr ⟨j, by omega, h2⟩)

end Go.Proofs.Qxb6608903a.Plain
