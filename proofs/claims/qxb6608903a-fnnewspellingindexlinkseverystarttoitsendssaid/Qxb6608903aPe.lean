/-
  THE PLAIN PART, E: a bottom-up merge sort.
-/
namespace Go.Proofs.Qxb6608903a.Plain
set_option linter.unusedVariables false

/-- The values of f from a on, k of them. -/
def seg (f : Nat → Nat) (a k : Nat) : List Nat := (List.range k).map fun i => f (a + i)

theorem seg_zero (f : Nat → Nat) (a : Nat) : seg f a 0 = [] := rfl

theorem seg_succ (f : Nat → Nat) (a k : Nat) : seg f a (k + 1) = seg f a k ++ [f (a + k)] := by
  unfold seg
  rw [List.range_succ, List.map_append]
  rfl

theorem seg_congr {f g : Nat → Nat} {a k : Nat} (h : ∀ i, i < k → f (a + i) = g (a + i)) : seg f a k = seg g a k := by
  unfold seg
  apply List.map_congr_left
  intro i hi
  exact h i (List.mem_range.1 hi)

theorem seg_add (f : Nat → Nat) (a k m : Nat) : seg f a (k + m) = seg f a k ++ seg f (a + k) m := by
  induction m with
  | zero => simp [seg]
  | succ m ih => rw [← Nat.add_assoc, seg_succ, ih, seg_succ, List.append_assoc, Nat.add_assoc]

theorem seg_len (f : Nat → Nat) (a k : Nat) : (seg f a k).length = k := by simp [seg]

/-- A merge under way: i and j: what comes next of the two runs; k: where it goes. -/
structure MS (le : Nat → Nat → Prop) (I F : Nat → Nat) (lo mid hi i j k : Nat) : Prop where
  a1 : lo ≤ i
  a2 : i ≤ mid
  a3 : mid ≤ j
  a4 : j ≤ hi
  hk : k + mid = i + j
  perm : (seg F lo (k - lo)).Perm (seg I lo (i - lo) ++ seg I mid (j - mid))
  sorted : ∀ p q, lo ≤ p → p < q → q < k → le (F p) (F q)
  low1 : ∀ p x, lo ≤ p → p < k → i ≤ x → x < mid → le (F p) (I x)
  low2 : ∀ p x, lo ≤ p → p < k → j ≤ x → x < hi → le (F p) (I x)

theorem MS.start (le : Nat → Nat → Prop) (I F : Nat → Nat) {lo mid hi : Nat} (h1 : lo ≤ mid) (h2 : mid ≤ hi) : MS le I F lo mid hi lo mid lo where
  a1 := Nat.le_refl _
  a2 := h1
  a3 := Nat.le_refl _
  a4 := h2
  hk := rfl
  perm := by simp [seg]
  sorted := fun p q h1 h2 h3 => by omega
  low1 := fun p x h1 h2 => by omega
  low2 := fun p x h1 h2 => by omega

/-- F with x laid at k. -/
def put (F : Nat → Nat) (k x : Nat) : Nat → Nat := fun p => if p = k then x else F p

theorem put_same (F : Nat → Nat) (k x : Nat) : put F k x k = x := if_pos rfl
theorem put_other (F : Nat → Nat) {k x p : Nat} (h : p ≠ k) : put F k x p = F p := if_neg h

theorem MS.takeI {le : Nat → Nat → Prop} {I F : Nat → Nat} {lo mid hi i j k : Nat} (h : MS le I F lo mid hi i j k) (hi' : i < mid) (hr : ∀ x, i < x → x < mid → le (I i) (I x)) (hc : ∀ x, j ≤ x → x < hi → le (I i) (I x)) :
    MS le I (put F k (I i)) lo mid hi (i + 1) j (k + 1) := by
  have h1 := h.a1; have h2 := h.a2; have h3 := h.a3; have h4 := h.a4; have hk := h.hk
  refine ⟨by omega, by omega, h3, h4, by omega, ?_, ?_, ?_, ?_⟩
  · have e1 : seg (put F k (I i)) lo (k + 1 - lo) = seg F lo (k - lo) ++ [I i] := by
      rw [show k + 1 - lo = (k - lo) + 1 from by omega, seg_succ, show lo + (k - lo) = k from by omega, put_same]
      congr 1
      exact seg_congr fun x hx => put_other F (by omega)
    have e2 : seg I lo (i + 1 - lo) = seg I lo (i - lo) ++ [I i] := by
      rw [show i + 1 - lo = (i - lo) + 1 from by omega, seg_succ, show lo + (i - lo) = i from by omega]
    rw [e1, e2]
    refine (h.perm.append_right [I i]).trans ?_
    rw [List.append_assoc, List.append_assoc]
    exact (List.perm_append_comm).append_left _
  · intro p q hp hpq hq
    rw [put_other F (show p ≠ k by omega)]
    by_cases e : q = k
    · rw [e, put_same]; exact h.low1 p i hp (by omega) (Nat.le_refl _) hi'
    · rw [put_other F e]; exact h.sorted p q hp hpq (by omega)
  · intro p x hp hpk hx hx'
    by_cases e : p = k
    · rw [e, put_same]; exact hr x (by omega) hx'
    · rw [put_other F e]; exact h.low1 p x hp (by omega) (by omega) hx'
  · intro p x hp hpk hx hx'
    by_cases e : p = k
    · rw [e, put_same]; exact hc x hx hx'
    · rw [put_other F e]; exact h.low2 p x hp (by omega) hx hx'

theorem MS.takeJ {le : Nat → Nat → Prop} {I F : Nat → Nat} {lo mid hi i j k : Nat} (h : MS le I F lo mid hi i j k) (hj' : j < hi) (hr : ∀ x, j < x → x < hi → le (I j) (I x)) (hc : ∀ x, i ≤ x → x < mid → le (I j) (I x)) :
    MS le I (put F k (I j)) lo mid hi i (j + 1) (k + 1) := by
  have h1 := h.a1; have h2 := h.a2; have h3 := h.a3; have h4 := h.a4; have hk := h.hk
  refine ⟨h1, h2, by omega, by omega, by omega, ?_, ?_, ?_, ?_⟩
  · have e1 : seg (put F k (I j)) lo (k + 1 - lo) = seg F lo (k - lo) ++ [I j] := by
      rw [show k + 1 - lo = (k - lo) + 1 from by omega, seg_succ, show lo + (k - lo) = k from by omega, put_same]
      congr 1
      exact seg_congr fun x hx => put_other F (by omega)
    have e2 : seg I mid (j + 1 - mid) = seg I mid (j - mid) ++ [I j] := by
      rw [show j + 1 - mid = (j - mid) + 1 from by omega, seg_succ, show mid + (j - mid) = j from by omega]
    rw [e1, e2, ← List.append_assoc]
    exact h.perm.append_right [I j]
  · intro p q hp hpq hq
    rw [put_other F (show p ≠ k by omega)]
    by_cases e : q = k
    · rw [e, put_same]; exact h.low2 p j hp (by omega) (Nat.le_refl _) hj'
    · rw [put_other F e]; exact h.sorted p q hp hpq (by omega)
  · intro p x hp hpk hx hx'
    by_cases e : p = k
    · rw [e, put_same]; exact hc x hx hx'
    · rw [put_other F e]; exact h.low1 p x hp (by omega) hx hx'
  · intro p x hp hpk hx hx'
    by_cases e : p = k
    · rw [e, put_same]; exact hr x (by omega) hx'
    · rw [put_other F e]; exact h.low2 p x hp (by omega) (by omega) hx'

/-- Runs of w, each sorted, among the first m. -/
def Runs (le : Nat → Nat → Prop) (F : Nat → Nat) (w m : Nat) : Prop := ∀ p q, p < q → q < m → p / w = q / w → le (F p) (F q)

/-- A pass under way: the runs up to lo have been merged. -/
structure PS (le : Nat → Nat → Prop) (I F : Nat → Nat) (n w lo : Nat) : Prop where
  dvd : ∃ c, lo = c * (2 * w)
  perm : (seg F 0 (min lo n)).Perm (seg I 0 (min lo n))
  runs : Runs le F (2 * w) (min lo n)

theorem PS.start (le : Nat → Nat → Prop) (I F : Nat → Nat) (n w : Nat) : PS le I F n w 0 where
  dvd := ⟨0, by simp⟩
  perm := by rw [Nat.zero_min]; exact List.Perm.refl _
  runs := fun p q h1 h2 => by rw [Nat.zero_min] at h2; omega

theorem div_eq_of {w c p : Nat} (hw : 0 < w) (h1 : c * w ≤ p) (h2 : p < c * w + w) : p / w = c := by
  have : p = w * c + (p - c * w) := by rw [Nat.mul_comm w c]; omega
  rw [this, Nat.mul_add_div hw, Nat.div_eq_of_lt (by omega)]
  omega

/-- The runs that a merge takes in are sorted. -/
theorem runs_low {le : Nat → Nat → Prop} {I : Nat → Nat} {n w lo : Nat} (hw : 0 < w) (hr : Runs le I w n) (hd : ∃ c, lo = c * (2 * w)) {x y : Nat} (h1 : lo ≤ x) (h2 : x < y) (h3 : y < lo + w) (h4 : y < n) : le (I x) (I y) := by
  obtain ⟨c, rfl⟩ := hd
  have e : c * (2 * w) = (2 * c) * w := by rw [Nat.mul_comm 2 c, Nat.mul_assoc]
  rw [e] at h1 h3
  exact hr x y h2 h4 (by rw [div_eq_of hw h1 (by omega), div_eq_of hw (by omega) h3])

theorem runs_high {le : Nat → Nat → Prop} {I : Nat → Nat} {n w lo : Nat} (hw : 0 < w) (hr : Runs le I w n) (hd : ∃ c, lo = c * (2 * w)) {x y : Nat} (h1 : lo + w ≤ x) (h2 : x < y) (h3 : y < lo + w + w) (h4 : y < n) : le (I x) (I y) := by
  obtain ⟨c, rfl⟩ := hd
  have e : c * (2 * w) + w = (2 * c + 1) * w := by rw [Nat.add_mul, Nat.one_mul, Nat.mul_comm 2 c, Nat.mul_assoc]
  rw [e] at h1 h3
  exact hr x y h2 h4 (by rw [div_eq_of hw h1 (by omega), div_eq_of hw (by omega) h3])

theorem PS.step {le : Nat → Nat → Prop} {I F F' : Nat → Nat} {n w lo mid hi : Nat} (hw : 0 < w) (h : PS le I F n w lo) (hlo : lo < n) (hmid : mid = min (lo + w) n) (hhi : hi = min (mid + w) n)
    (hm : MS le I F' lo mid hi mid hi hi) (hsame : ∀ p, p < lo → F' p = F p) : PS le I F' n w (lo + 2 * w) := by
  obtain ⟨c, hc⟩ := h.dvd
  have e1 : min (lo + 2 * w) n = hi := by omega
  have e2 : min lo n = lo := by omega
  refine ⟨⟨c + 1, by rw [hc, Nat.add_mul, Nat.one_mul]⟩, ?_, ?_⟩
  · rw [e1]
    have hp := h.perm
    rw [e2] at hp
    have s1 : seg F' 0 hi = seg F 0 lo ++ seg F' lo (hi - lo) := by
      have := seg_add F' 0 lo (hi - lo)
      rw [show lo + (hi - lo) = hi from by omega, Nat.zero_add] at this
      rw [this]
      congr 1
      exact seg_congr fun i hi => hsame _ (by omega)
    have s2 : seg I 0 hi = seg I 0 lo ++ (seg I lo (mid - lo) ++ seg I mid (hi - mid)) := by
      have a := seg_add I 0 lo (hi - lo)
      rw [show lo + (hi - lo) = hi from by omega, Nat.zero_add] at a
      have b := seg_add I lo (mid - lo) (hi - mid)
      rw [show mid - lo + (hi - mid) = hi - lo from by omega, show lo + (mid - lo) = mid from by omega] at b
      rw [a, b]
    rw [s1, s2]
    exact hp.append hm.perm
  · rw [e1]
    intro p q h1 h2 h3
    by_cases hq : q < lo
    · rw [hsame p (by omega), hsame q hq]
      exact h.runs p q h1 (by rw [e2]; exact hq) h3
    · by_cases hp : p < lo
      · exfalso
        have hq2 : q / (2 * w) = c := div_eq_of (by omega) (by omega) (by omega)
        have hp2 : p / (2 * w) < c := Nat.div_lt_of_lt_mul (by rw [Nat.mul_comm]; omega)
        omega
      · exact hm.sorted p q (by omega) h1 h2

theorem PS.done {le : Nat → Nat → Prop} {I F : Nat → Nat} {n w lo : Nat} (h : PS le I F n w lo) (hlo : n ≤ lo) : (seg F 0 n).Perm (seg I 0 n) ∧ Runs le F (2 * w) n := by
  have e : min lo n = n := by omega
  have h1 := h.perm
  have h2 := h.runs
  rw [e] at h1 h2
  exact ⟨h1, h2⟩

theorem runs_one (le : Nat → Nat → Prop) (F : Nat → Nat) (n : Nat) : Runs le F 1 n := fun p q h1 h2 h3 => by
  rw [Nat.div_one, Nat.div_one] at h3
  omega

theorem runs_all {le : Nat → Nat → Prop} {F : Nat → Nat} {w n : Nat} (h : Runs le F w n) (hw : n ≤ w) : ∀ p q, p < q → q < n → le (F p) (F q) :=
  fun p q h1 h2 => h p q h1 h2 (by rw [Nat.div_eq_of_lt (by omega), Nat.div_eq_of_lt (by omega)])

theorem seg_id (n : Nat) : seg (fun i => i) 0 n = List.range n := by
  unfold seg
  simp

theorem seg_range_lt {F : Nat → Nat} {n : Nat} (h : (seg F 0 n).Perm (List.range n)) {p : Nat} (hp : p < n) : F p < n := by
  have : F p ∈ seg F 0 n := by
    unfold seg
    rw [List.mem_map]
    exact ⟨p, List.mem_range.2 hp, by rw [Nat.zero_add]⟩
  exact List.mem_range.1 (h.mem_iff.1 this)

end Go.Proofs.Qxb6608903a.Plain
