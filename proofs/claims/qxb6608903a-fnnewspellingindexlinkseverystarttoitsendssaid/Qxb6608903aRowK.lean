/-
  A ROW OF n ELEMENTS OF s CELLS that a call owns, its content by element and cell. No program in sight.
-/
import Derived.Deep.AppendLies
import Derived.Deep.OwnRows
import Derived.Deep.Draws
import Derived.Below
namespace Go.Proofs.Qxb6608903a.Mem
open Go.RowKit
set_option linter.unusedVariables false

/-- Block g is a row of cap elements of s cells, none frozen; cell i of element c holds 'F c i', for the first n. -/
def OwnK (w : World) (e s g cap n : Nat) (F : Nat → Nat → Value) : Prop :=
  ∃ cur : Array Value, w.heap[g]? = some (.cells cur e (0, 0)) ∧ n ≤ cap ∧ cap ≤ maxLen ∧ cur.size = cap * s ∧ ∀ c i, c < n → i < s → cur[c * s + i]? = some (F c i)

/-- The cells one behind another. -/
def flatK (s : Nat) (F : Nat → Nat → Value) : Nat → List Value
  | 0 => []
  | n + 1 => flatK s F n ++ (List.range s).map (F n)

theorem flatK_len (s : Nat) (F : Nat → Nat → Value) (n : Nat) : (flatK s F n).length = n * s := by
  induction n with
  | zero => simp [flatK]
  | succ n ih => simp [flatK, ih, Nat.succ_mul]

theorem flatK_get (s : Nat) (F : Nat → Nat → Value) (n : Nat) {c i : Nat} (hc : c < n) (hi : i < s) : (flatK s F n)[c * s + i]? = some (F c i) := by
  induction n with
  | zero => omega
  | succ n ih =>
    unfold flatK
    by_cases e : c < n
    · have hlt : c * s + i < n * s := by
        have h1 : (c + 1) * s ≤ n * s := Nat.mul_le_mul_right s e
        rw [Nat.succ_mul] at h1
        omega
      rw [List.getElem?_append_left (by rw [flatK_len]; exact hlt)]
      exact ih e
    · obtain rfl : c = n := by omega
      rw [List.getElem?_append_right (by rw [flatK_len]; omega), flatK_len]
      rw [show c * s + i - c * s = i from by omega, List.getElem?_map, List.getElem?_range hi]
      rfl

section
variable {w w' : World} {e s g cap n : Nat} {F G : Nat → Nat → Value}

theorem OwnK.cell (h : OwnK w e s g cap n F) {c i : Nat} (hc : c < n) (hi : i < s) : w.cell? ⟨g, c * s + i, none⟩ = some (F c i) := by
  obtain ⟨cur, hg, _, _, _, hF⟩ := h
  simp [World.cell?, hg, hF c i hc hi]

theorem OwnK.frozen (h : OwnK w e s g cap n F) (o : Nat) : w.frozen? ⟨g, o, none⟩ = false := by
  obtain ⟨cur, hg, _⟩ := h
  simp [World.frozen?, hg]

theorem OwnK.lt (h : OwnK w e s g cap n F) : g < w.heap.size := by
  obtain ⟨cur, hg, _⟩ := h
  rcases Nat.lt_or_ge g w.heap.size with hlt | hge
  · exact hlt
  · rw [Array.getElem?_eq_none hge] at hg; cases hg

theorem OwnK.le (h : OwnK w e s g cap n F) : n ≤ cap := by
  obtain ⟨cur, hg, hn, _⟩ := h
  exact hn

theorem OwnK.congr (h : OwnK w e s g cap n F) (hFG : ∀ c i, c < n → i < s → F c i = G c i) : OwnK w e s g cap n G := by
  obtain ⟨cur, hg, h1, h2, h3, hF⟩ := h
  exact ⟨cur, hg, h1, h2, h3, fun c i hc hi => by rw [hF c i hc hi, hFG c i hc hi]⟩

theorem OwnK.of_block (h : OwnK w e s g cap n F) (hb : w'.heap[g]? = w.heap[g]?) : OwnK w' e s g cap n F := by
  obtain ⟨cur, hg, rest⟩ := h
  exact ⟨cur, by rw [hb, hg], rest⟩

theorem OwnK.alloc (h : OwnK w e s g cap n F) (o : Obj) : OwnK (w.alloc o) e s g cap n F := h.of_block (Below.heap_alloc _ _ _ h.lt)
theorem OwnK.drewN (h : OwnK w e s g cap n F) (q : Nat) : OwnK (w.drewN q) e s g cap n F := h
theorem OwnK.drew (h : OwnK w e s g cap n F) : OwnK w.drew e s g cap n F := h
theorem OwnK.setOther (h : OwnK w e s g cap n F) {a : Addr} (ha : g ≠ a.block) (v : Value) : OwnK (w.setCell a v) e s g cap n F := h.of_block (Below.heap_setCell _ _ _ _ ha)
theorem OwnK.below (h : OwnK w e s g cap n F) {B : Nat} (hb : Below B w w') (hg : g < B) : OwnK w' e s g cap n F := h.of_block (hb.block g hg)
theorem OwnK.grown (h : OwnK w e s g cap n F) {row : Option Nat} (hg : w.grownBy w' row) (hne : some g ≠ row) : OwnK w' e s g cap n F := h.of_block (hg.block g h.lt hne)

/-- A store into the row. -/
theorem OwnK.set (h : OwnK w e s g cap n F) {c i : Nat} (hc : c < n) (hi : i < s) (v : Value) : OwnK (w.setCell ⟨g, c * s + i, none⟩ v) e s g cap n (fun c' i' => if c' = c ∧ i' = i then v else F c' i') := by
  obtain ⟨cur, hg, h1, h2, h3, hF⟩ := h
  refine ⟨cur.setIfInBounds (c * s + i) v, ?_, h1, h2, by simpa using h3, fun c' i' hc' hi' => ?_⟩
  · simp [World.setCell, Array.getElem?_modify, hg]
  · have hlt : c * s + i < cur.size := by
      obtain ⟨hl, _⟩ := Array.getElem?_eq_some_iff.1 (hF c i hc hi)
      exact hl
    rw [Array.getElem?_setIfInBounds]
    show _ = some (if c' = c ∧ i' = i then v else F c' i')
    by_cases e : c' = c ∧ i' = i
    · obtain ⟨rfl, rfl⟩ := e
      rw [if_pos rfl, if_pos hlt, if_pos ⟨rfl, rfl⟩]
    · rw [if_neg ?_, if_neg e]
      · exact hF c' i' hc' hi'
      · intro h
        apply e
        have hs : 0 < s := by omega
        have e1 : (c * s + i) / s = c := by rw [Nat.mul_comm, Nat.mul_add_div hs, Nat.div_eq_of_lt hi]; rfl
        have e2 : (c' * s + i') / s = c' := by rw [Nat.mul_comm, Nat.mul_add_div hs, Nat.div_eq_of_lt hi']; rfl
        have hcc : c' = c := by rw [← e1, ← e2, h]
        subst hcc
        exact ⟨rfl, by omega⟩

/-- As the kit's laws on append want it. -/
theorem OwnK.owns (h : OwnK w e s g cap n F) (hs : 0 < s) {base : Nat} (hb : base ≤ g) : w.ownsRow base e s (.slice (some ⟨g, 0, none⟩) n cap) n (flatK s F n) := by
  obtain ⟨cur, hg, h1, h2, h3, hF⟩ := h
  refine ⟨flatK_len s F n, .inr ⟨g, cap, cur, rfl, hb, hg, h1, h2, h3, ?_⟩⟩
  apply List.ext_getElem?
  intro j
  by_cases hj : j < n * s
  · have hd : j / s < n := Nat.div_lt_of_lt_mul (by rw [Nat.mul_comm]; exact hj)
    have hm : j % s < s := Nat.mod_lt _ hs
    have hj' : j = j / s * s + j % s := by rw [Nat.mul_comm]; exact (Nat.div_add_mod j s).symm
    rw [List.getElem?_take_of_lt hj, Array.getElem?_toList]
    rw [hj', hF _ _ hd hm, flatK_get s F n hd hm]
  · rw [List.getElem?_eq_none (by rw [List.length_take]; omega), List.getElem?_eq_none (by rw [flatK_len]; omega)]

/-- Back from the kit's laws. -/
theorem own_of {base : Nat} {xs : List Value} (h : w.ownsRow base e s (.slice (some ⟨g, 0, none⟩) n cap) n xs) (hF : ∀ c i, c < n → i < s → xs[c * s + i]? = some (F c i)) : OwnK w e s g cap n F ∧ base ≤ g := by
  rcases h.2 with ⟨h1, _⟩ | ⟨g', cap', cur, hv, hb, hg, h1, h2, h3, h4⟩
  · exact absurd h1 (by simp)
  · simp only [Value.slice.injEq, Option.some.injEq, Addr.mk.injEq, and_true, true_and] at hv
    obtain ⟨rfl, rfl⟩ := hv
    refine ⟨⟨cur, hg, h1, h2, h3, fun c i hc hi => ?_⟩, hb⟩
    have hlt : c * s + i < n * s := by
      have h1 : (c + 1) * s ≤ n * s := Nat.mul_le_mul_right s hc
      rw [Nat.succ_mul] at h1
      omega
    have := hF c i hc hi
    rw [← h4, List.getElem?_take_of_lt hlt, Array.getElem?_toList] at this
    exact this

/-- One element has been appended. -/
theorem own_snoc {base : Nat} {news : List Value} (h : w.ownsRow base e s (.slice (some ⟨g, 0, none⟩) (n + 1) cap) (n + 1) (flatK s F n ++ news)) (hG : ∀ c i, c < n → i < s → G c i = F c i) (hN : ∀ i, i < s → news[i]? = some (G n i)) :
    OwnK w e s g cap (n + 1) G ∧ base ≤ g := by
  refine own_of h fun c i hc hi => ?_
  by_cases e : c < n
  · have hlt : c * s + i < n * s := by
      have h1 : (c + 1) * s ≤ n * s := Nat.mul_le_mul_right s e
      rw [Nat.succ_mul] at h1
      omega
    rw [List.getElem?_append_left (by rw [flatK_len]; exact hlt), flatK_get s F n e hi, hG c i e hi]
  · obtain rfl : c = n := by omega
    rw [List.getElem?_append_right (by rw [flatK_len]; omega), flatK_len, show c * s + i - c * s = i from by omega]
    exact hN i hi

/-- A row that 'make' has laid. -/
theorem own_made (w : World) (z : Array Value) (e s cap n : Nat) (hz : z.size = s) (hs : 0 < s) (hn : n ≤ cap) (hc : cap ≤ maxLen) : OwnK (w.alloc (.cells (madeCells z (cap * s)) e)) e s w.heap.size cap n (fun _ i => z[i]!) := by
  refine ⟨madeCells z (cap * s), Go.Deep.blk_alloc_new _ _, hn, hc, size_madeCells _ _, fun c i hcn hi => ?_⟩
  have hlt : c * s + i < cap * s := by
    have h1 : (c + 1) * s ≤ cap * s := Nat.mul_le_mul_right s (by omega)
    rw [Nat.succ_mul] at h1
    omega
  have hm : (c * s + i) % z.size = i := by rw [hz, Nat.mul_comm, Nat.mul_add_mod, Nat.mod_eq_of_lt hi]
  simp [madeCells, hlt, hm]

end

theorem old_of {w : World} {a : Addr} {v : Value} (h : w.cell? a = some v) : a.block < w.heap.size := by
  by_cases hb : a.block < w.heap.size
  · exact hb
  · have : w.heap[a.block]? = none := by simp; omega
    simp [World.cell?, this] at h

theorem dr_below (B : Nat) (w : World) (q : Nat) : Below B w (w.drewN q) := ⟨rfl, rfl, rfl, Nat.le_refl _, fun _ _ => rfl⟩

/-- Text number k; character number j (behind names that the walk's simp does not open). -/
def tx (T : List (List Int)) (k : Nat) : List Int := T.getD k []
def rn (t : List Int) (j : Nat) : Int := t.getD j 0

/-- A slice of characters, read in w. -/
def RunesAt (w : World) (v : Value) (t : List Int) : Prop :=
  ∃ (a : Option Addr) (cap : Nat), v = .slice a t.length cap ∧ (t = [] ∨ ∃ b off, a = some ⟨b, off, none⟩ ∧ ∀ j, j < t.length → w.cell? ⟨b, off + j, none⟩ = some (.int .i32 (rn t j)))

theorem RunesAt.below {w w' : World} {v : Value} {t : List Int} (h : RunesAt w v t) (hb : Below w.heap.size w w') : RunesAt w' v t := by
  obtain ⟨a, cap, rfl, h⟩ := h
  refine ⟨a, cap, rfl, ?_⟩
  rcases h with h | ⟨b, off, ha, hc⟩
  · exact .inl h
  · exact .inr ⟨b, off, ha, fun j hj => by rw [hb.cell (old_of (hc j hj))]; exact hc j hj⟩

/-- A slice of slices of characters, read in w. -/
def TextsAt (w : World) (v : Value) (T : List (List Int)) : Prop :=
  ∃ (a : Option Addr) (cap : Nat), v = .slice a T.length cap ∧ (T = [] ∨ ∃ b off, a = some ⟨b, off, none⟩ ∧ ∀ j, j < T.length → ∃ u, w.cell? ⟨b, off + j, none⟩ = some u ∧ RunesAt w u (tx T j))

theorem TextsAt.below {w w' : World} {v : Value} {T : List (List Int)} (h : TextsAt w v T) (hb : Below w.heap.size w w') : TextsAt w' v T := by
  obtain ⟨a, cap, rfl, h⟩ := h
  refine ⟨a, cap, rfl, ?_⟩
  rcases h with h | ⟨b, off, ha, hc⟩
  · exact .inl h
  · refine .inr ⟨b, off, ha, fun j hj => ?_⟩
    obtain ⟨u, h1, h2⟩ := hc j hj
    exact ⟨u, by rw [hb.cell (old_of h1)]; exact h1, h2.below hb⟩

end Go.Proofs.Qxb6608903a.Mem
