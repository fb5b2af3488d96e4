/-
  Law 5: ahead of the walk.
-/
import Derived.Test.Qxb6608903aZs
import Derived.Test.Qxb6608903aPq
import Derived.Test.Qxb6608903aBy
namespace Go.Proofs.Qxb6608903a.Ix
open Go.RowKit Plain Mem Go.Sort Lk
open U hiding hid
set_option linter.unusedVariables false

theorem info40 : (Try.prog.info? 40).map (fun i => (i.zero, i.size, i.bytes)) = some (some (.agg #[.string ⟨#[]⟩, .int .i64 0]), 2, 24) := by kernel_rfl

theorem make38 (n : Nat) (hn : n ≤ 65536) (w : World) : (Instr.makeSlice 38 (.int .i64 (n : Int)) (.int .i64 (n : Int))).run Try.prog w = .ok (.slice (some ⟨w.heap.size, 0, none⟩) n n) (w.alloc (.cells (madeCells #[.string ⟨#[]⟩, .int .i64 0] (n * 2)) 40)) := by
  obtain ⟨i0, hi, hz0, hz1, hz2⟩ := info_parts info40
  have h := run_make (P := Try.prog) w 38 40 i0 _ Try.underlying38 hi hz0 .i64 .i64 n n (by omega) (Int.le_refl _) (by rw [hz2]; omega) (by omega)
  rw [hz1] at h
  simp only [Int.toNat_natCast] at h
  exact h

/-- The bytes of the strings, as the bound counts them. -/
def szTo (str : Nat → ByteArray) : Nat → Nat
  | 0 => 0
  | i + 1 => szTo str i + (16 + (str i).size)

theorem szTo_mono (str : Nat → ByteArray) {i j : Nat} (h : i ≤ j) : szTo str i ≤ szTo str j := by
  induction j with
  | zero => obtain rfl : i = 0 := by omega
            exact Nat.le_refl _
  | succ j ih =>
    by_cases e : i = j + 1
    · rw [e]; exact Nat.le_refl _
    · have := ih (by omega)
      show _ ≤ szTo str j + (16 + (str j).size)
      omega

theorem len_sz (str : Nat → ByteArray) (n : Nat) : ∀ k, k ≤ n → lenTo (tsT str n) k ≤ szTo str k
  | 0, _ => Nat.le_refl _
  | k + 1, h => by
    have h1 := len_sz str n k (by omega)
    have h2 := runes_len (str k)
    show lenTo (tsT str n) k + (tx (tsT str n) k).length ≤ szTo str k + (16 + (str k).size)
    rw [tsT_at str (show k < n by omega)]
    omega

/-- A row of spellings: the first i are laid. -/
def SpR (w : World) (g n i : Nat) (str : Nat → ByteArray) (ch : Nat → Int) : Prop :=
  ∃ F : Nat → Nat → Value, OwnK w 40 2 g n n F ∧ ∀ c, c < i → F c 0 = .string (str c) ∧ F c 1 = .int .i64 (ch c)

theorem SpR.made (w : World) (n : Nat) (hn : n ≤ 65536) (str : Nat → ByteArray) (ch : Nat → Int) : SpR (w.alloc (.cells (madeCells #[.string ⟨#[]⟩, .int .i64 0] (n * 2)) 40)) w.heap.size n 0 str ch :=
  ⟨_, own_made w #[.string ⟨#[]⟩, .int .i64 0] 40 2 n n rfl (by decide) (Nat.le_refl _) (by unfold maxLen; omega), fun c hc => by omega⟩

theorem SpR.of_block {w w' : World} {g n i : Nat} {str : Nat → ByteArray} {ch : Nat → Int} (h : SpR w g n i str ch) (hb : w'.heap[g]? = w.heap[g]?) : SpR w' g n i str ch := by
  obtain ⟨F, h1, h2⟩ := h
  exact ⟨F, h1.of_block hb, h2⟩

theorem SpR.lt {w : World} {g n i : Nat} {str : Nat → ByteArray} {ch : Nat → Int} (h : SpR w g n i str ch) : g < w.heap.size := by
  obtain ⟨F, h1, h2⟩ := h
  exact h1.lt

theorem SpR.at {w : World} {g n i : Nat} {str : Nat → ByteArray} {ch : Nat → Int} (h : SpR w g n i str ch) {j : Nat} (hj : j < n) : (∃ v, w.cell? ⟨g, j * 2, none⟩ = some v) ∧ (∃ v, w.cell? ⟨g, j * 2 + 1, none⟩ = some v) ∧ ∀ o, w.frozen? ⟨g, o, none⟩ = false := by
  obtain ⟨F, h1, h2⟩ := h
  exact ⟨⟨_, h1.cell (i := 0) hj (by decide)⟩, ⟨_, h1.cell (i := 1) hj (by decide)⟩, fun o => h1.frozen o⟩

theorem SpR.put {w : World} {g n i : Nat} {str : Nat → ByteArray} {ch : Nat → Int} (h : SpR w g n i str ch) (hi : i < n) : SpR ((w.setCell ⟨g, i * 2, none⟩ (.string (str i))).setCell ⟨g, i * 2 + 1, none⟩ (.int .i64 (ch i))) g n (i + 1) str ch := by
  obtain ⟨F, h1, h2⟩ := h
  have h3 := h1.set (c := i) (i := 0) hi (by decide) (.string (str i))
  have h4 := h3.set (c := i) (i := 1) hi (by decide) (.int .i64 (ch i))
  rw [Nat.add_zero] at h4
  refine ⟨_, h4, fun c hc => ?_⟩
  by_cases e : c = i
  · subst e; simp
  · obtain ⟨a, b⟩ := h2 c (by omega)
    simp [e, a, b]

theorem SpR.all {w : World} {g n : Nat} {str : Nat → ByteArray} {ch : Nat → Int} (h : SpR w g n n str ch) : SpAt w g n str ch := by
  obtain ⟨F, h1, h2⟩ := h
  intro j hj
  have a := h1.cell (i := 0) hj (by decide)
  have b := h1.cell (i := 1) hj (by decide)
  rw [(h2 j hj).1] at a
  rw [(h2 j hj).2] at b
  exact ⟨a, b⟩

/-- Both rows while they are filled. -/
structure GT (w1 wr : World) (n i k : Nat) (str : Nat → ByteArray) (ch : Nat → Int) : Prop where
  bel : Below w1.heap.size w1 wr
  g : SpR wr w1.heap.size n i str ch
  t : SpR wr (w1.heap.size + 1) n i (fun j => str (rot n k j)) (fun j => ch (rot n k j))

theorem GT.start (w1 : World) (n k : Nat) (hn : n ≤ 65536) (str : Nat → ByteArray) (ch : Nat → Int) : GT w1 ((w1.alloc (.cells (madeCells #[.string ⟨#[]⟩, .int .i64 0] (n * 2)) 40)).alloc (.cells (madeCells #[.string ⟨#[]⟩, .int .i64 0] (n * 2)) 40)) n 0 k str ch where
  bel := ((Below.refl _ _).alloc (Nat.le_refl _) _).alloc (by simp) _
  g := (SpR.made w1 n hn str ch).of_block (Below.heap_alloc _ _ _ (by simp))
  t := by
    have h := SpR.made (w1.alloc (.cells (madeCells #[.string ⟨#[]⟩, .int .i64 0] (n * 2)) 40)) n hn (fun j => str (rot n k j)) (fun j => ch (rot n k j))
    simpa using h

theorem GT.step {w1 wr : World} {n i k : Nat} {str : Nat → ByteArray} {ch : Nat → Int} (h : GT w1 wr n i k str ch) (hi : i < n) (o1 o2 : Obj) {w2 w3 : World}
    (e2 : w2 = (((wr.setCell ⟨w1.heap.size, i * 2, none⟩ (.string (str i))).setCell ⟨w1.heap.size, i * 2 + 1, none⟩ (.int .i64 (ch i))).alloc o1).drew)
    (e3 : w3 = (((w2.setCell ⟨w1.heap.size + 1, i * 2, none⟩ (.string (str (rot n k i)))).setCell ⟨w1.heap.size + 1, i * 2 + 1, none⟩ (.int .i64 (ch (rot n k i)))).alloc o2).drew) : GT w1 w3 n (i + 1) k str ch := by
  have hl := h.t.lt
  have hs2 : w2.heap.size = wr.heap.size + 1 := by rw [e2]; simp
  have g2 : SpR w2 w1.heap.size n (i + 1) str ch := by rw [e2]; exact (h.g.put hi).of_block (Below.heap_alloc _ _ _ (by simp; omega))
  have t2 : SpR w2 (w1.heap.size + 1) n i (fun j => str (rot n k j)) (fun j => ch (rot n k j)) := by
    rw [e2]
    refine h.t.of_block ?_
    show ((((wr.setCell ⟨w1.heap.size, i * 2, none⟩ (.string (str i))).setCell ⟨w1.heap.size, i * 2 + 1, none⟩ (.int .i64 (ch i))).alloc o1)).heap[w1.heap.size + 1]? = _
    rw [Below.heap_alloc _ _ _ (by simp; omega), Below.heap_setCell _ _ _ _ (by show w1.heap.size + 1 ≠ w1.heap.size; omega), Below.heap_setCell _ _ _ _ (by show w1.heap.size + 1 ≠ w1.heap.size; omega)]
  refine ⟨?_, ?_, ?_⟩
  · rw [e3, e2]
    refine ((((((h.bel.setCell (Nat.le_refl _) _).setCell (Nat.le_refl _) _).alloc (by simp; omega) _).drew).setCell (by show w1.heap.size ≤ w1.heap.size + 1; omega) _).setCell (by show w1.heap.size ≤ w1.heap.size + 1; omega) _).alloc (by simp; omega) _ |>.drew
  · rw [e3]
    refine g2.of_block ?_
    show ((((w2.setCell ⟨w1.heap.size + 1, i * 2, none⟩ (.string (str (rot n k i)))).setCell ⟨w1.heap.size + 1, i * 2 + 1, none⟩ (.int .i64 (ch (rot n k i)))).alloc o2)).heap[w1.heap.size]? = _
    rw [Below.heap_alloc _ _ _ (by simp; omega), Below.heap_setCell _ _ _ _ (by show w1.heap.size ≠ w1.heap.size + 1; omega), Below.heap_setCell _ _ _ _ (by show w1.heap.size ≠ w1.heap.size + 1; omega)]
  · rw [e3]
    exact (t2.put hi).of_block (Below.heap_alloc _ _ _ (by simp; omega))

theorem GT.below {w1 wr w' : World} {n i k : Nat} {str : Nat → ByteArray} {ch : Nat → Int} (h : GT w1 wr n i k str ch) (hb : Below wr.heap.size wr w') : GT w1 w' n i k str ch :=
  ⟨h.bel.trans (hb.mono h.bel.size), h.g.of_block (hb.block _ h.g.lt), h.t.of_block (hb.block _ h.t.lt)⟩

theorem rsL_end (s : ByteArray) (b pos : Nat) (h : ¬ pos < s.size) : rsL s b pos = [] := by
  cases b with
  | zero => rfl
  | succ b => unfold rsL; rw [if_neg h]

theorem width_pos (s : ByteArray) (pos : Nat) (h : pos < s.size) : 1 ≤ (Utf8.decode s pos).2 := by
  by_cases ha : (s[pos]'h).toNat < 128
  · rw [decode_ascii s pos h ha]
    exact Nat.le_refl _
  · exact (decode_high s pos h (by omega)).2

theorem iter_below (B : Nat) (w : World) (s : ByteArray) (pos : Nat) (hB : B ≤ w.heap.size) : Below B w (w.iter s pos) := by
  unfold World.iter
  exact (Below.refl _ _).alloc hB _

end Go.Proofs.Qxb6608903a.Ix
