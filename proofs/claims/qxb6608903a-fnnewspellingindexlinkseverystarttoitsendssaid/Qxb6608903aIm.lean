/-
  newSpellingIndex (28): what lies in memory on the way.
-/
import Derived.Test.Qxb6608903aPk
import Derived.Test.Qxb6608903aPb
namespace Go.Proofs.Qxb6608903a.Ix
open Go.RowKit Plain Mem Go.Sort U Lk
set_option linter.unusedVariables false

theorem fcell {w w' : World} {k : Nat} (h : w'.heap[k]? = w.heap[k]?) {o : Nat} {v : Value} (hc : w.cell? ⟨k, o, none⟩ = some v) : w'.cell? ⟨k, o, none⟩ = some v := by
  rw [World.cell?_of_block (w := w) h]; exact hc

/-- A text in a block of its own, B or behind it. -/
def RB (w : World) (B : Nat) (v : Value) (t : List Int) : Prop :=
  ∃ g cap : Nat, v = .slice (some ⟨g, 0, none⟩) t.length cap ∧ B ≤ g ∧ g < w.heap.size ∧ ∀ j, j < t.length → w.cell? ⟨g, j, none⟩ = some (.int .i32 (rn t j))

theorem RB.same {w w' : World} {B : Nat} {v : Value} {t : List Int} (h : RB w B v t) (hs : ∀ g, B ≤ g → g < w.heap.size → w'.heap[g]? = w.heap[g]?) (hz : w.heap.size ≤ w'.heap.size) : RB w' B v t := by
  obtain ⟨g, cap, rfl, h1, h2, h3⟩ := h
  exact ⟨g, cap, rfl, h1, by omega, fun j hj => fcell (hs g h1 h2) (h3 j hj)⟩

theorem RB.below {w w' : World} {B : Nat} {v : Value} {t : List Int} (h : RB w B v t) (hb : Below w.heap.size w w') : RB w' B v t := h.same (fun g _ hg => hb.block g hg) hb.size

theorem RB.runesAt {w : World} {B : Nat} {v : Value} {t : List Int} (h : RB w B v t) : RunesAt w v t := by
  obtain ⟨g, cap, rfl, h1, h2, h3⟩ := h
  exact ⟨_, cap, rfl, .inr ⟨g, 0, rfl, fun j hj => by rw [Nat.zero_add]; exact h3 j hj⟩⟩

/-- A row of runes (as Clone and Reverse say it). -/
theorem RB.of {w : World} {B g cap : Nat} {t : List Int} {f : Nat → Nat → Value} (h : OwnK w 21 1 g cap t.length f) (hf : ∀ j, f j 0 = .int .i32 (rn t j)) (hB : B ≤ g) : RB w B (.slice (some ⟨g, 0, none⟩) t.length cap) t :=
  ⟨g, cap, rfl, hB, h.lt, fun j hj => by
    have := h.cell (c := j) (i := 0) hj (by decide)
    rw [Nat.mul_one, Nat.add_zero, hf] at this
    exact this⟩

/-- Loop 1: the two rows of slices; the first k texts and their turned ones. -/
structure L1 (w wr : World) (n k : Nat) (T V : List (List Int)) (F G : Nat → Value) : Prop where
  bel : Below w.heap.size w wr
  rt : wr.rowIs w.heap.size 24 n F
  rr : wr.rowIs (w.heap.size + 1) 24 n G
  txt : ∀ j, j < k → RB wr (w.heap.size + 2) (F j) (tx T j) ∧ RB wr (w.heap.size + 2) (G j) (tx V j)

theorem L1.start (w : World) (n : Nat) (T V : List (List Int)) : L1 w ((w.alloc (.cells (madeCells #[.slice none 0 0] n) 24)).alloc (.cells (madeCells #[.slice none 0 0] n) 24)) n 0 T V (fun _ => .slice none 0 0) (fun _ => .slice none 0 0) where
  bel := ((Below.refl _ _).alloc (Nat.le_refl _) _).alloc (by simp) _
  rt := (World.rowIs_made w _ n 24).alloc _
  rr := by have := World.rowIs_made (w.alloc (.cells (madeCells #[.slice none 0 0] n) 24)) (.slice none 0 0) n 24
           simpa using this
  txt := fun j hj => by omega

/-- One value is put. -/
def putV (F : Nat → Value) (k : Nat) (v : Value) : Nat → Value := fun j => if j = k then v else F j
theorem putV_self (F : Nat → Value) (k : Nat) (v : Value) : putV F k v k = v := if_pos rfl
theorem putV_other (F : Nat → Value) {k j : Nat} (v : Value) (h : j ≠ k) : putV F k v j = F j := if_neg h

theorem L1.step {w wr w2 w3 : World} {n k : Nat} {T V : List (List Int)} {F G : Nat → Value} (h : L1 w wr n k T V F G) (hk : k < n) (A : Obj) (arr : Array Value) (cap g2 cap2 : Nat)
    (hV : tx V k = (tx T k).reverse)
    (harr : ∀ j, j < (tx T k).length → arr[j]? = some (.int .i32 (rn (tx T k) j)))
    (hb2 : Below (wr.heap.size + 2) ((((wr.setCell ⟨w.heap.size, k, none⟩ (.slice (some ⟨wr.heap.size + 1, 0, none⟩) (tx T k).length cap)).alloc A).alloc (.cells arr 21))) w2)
    (hg2 : wr.heap.size + 2 ≤ g2)
    (hgr : (w2.setCell ⟨w.heap.size + 1, k, none⟩ (.slice (some ⟨g2, 0, none⟩) (tx T k).length cap2)).grownBy w3 (some g2))
    (hown : ∀ j, j < (tx T k).length → w3.cell? ⟨g2, j, none⟩ = some (.int .i32 (rn (tx T k).reverse j))) (hlt3 : g2 < w3.heap.size) :
    L1 w w3 n (k + 1) T V (putV F k (.slice (some ⟨wr.heap.size + 1, 0, none⟩) (tx T k).length cap)) (putV G k (.slice (some ⟨g2, 0, none⟩) (tx T k).length cap2)) := by
  have hsz := h.rr.lt
  have hs2 : wr.heap.size + 2 ≤ w2.heap.size := by have := hb2.size; simpa using this
  have hs3 : w2.heap.size ≤ w3.heap.size := by have := hgr.size; simpa using this
  have far : ∀ g, g < wr.heap.size → g ≠ w.heap.size → g ≠ w.heap.size + 1 → w3.heap[g]? = wr.heap[g]? := fun g h1 h2 h3 => by
    rw [hgr.block g (by simp; omega) (by simp; omega), Below.heap_setCell _ _ _ _ h3, hb2.block g (by omega), Below.heap_alloc _ _ _ (by simp; omega), Below.heap_alloc _ _ _ (by simp; omega), Below.heap_setCell _ _ _ _ h2]
  refine ⟨⟨?_, ?_, ?_, by have := h.bel.size; omega, fun g hg => ?_⟩, ?_, ?_, fun j hj => ?_⟩
  · exact hgr.os.trans (hb2.os.trans h.bel.os)
  · exact hgr.tape.trans (hb2.tape.trans h.bel.tape)
  · exact hgr.output.trans (hb2.output.trans h.bel.output)
  · rw [far g (by omega) (by omega) (by omega)]; exact h.bel.block g hg
  · have h1 := h.rt.set k (.slice (some ⟨wr.heap.size + 1, 0, none⟩) (tx T k).length cap)
    have h2 : w2.rowIs w.heap.size 24 n _ := ((h1.alloc A).alloc (.cells arr 21)).of_block (hb2.block _ (by omega))
    have h3 := h2.setOther (a := ⟨w.heap.size + 1, k, none⟩) (by show w.heap.size ≠ w.heap.size + 1; omega) (.slice (some ⟨g2, 0, none⟩) (tx T k).length cap2)
    exact h3.of_block (hgr.block _ (by simp; omega) (by simp; omega))
  · have h1 := h.rr.setOther (a := ⟨w.heap.size, k, none⟩) (by show w.heap.size + 1 ≠ w.heap.size; omega) (.slice (some ⟨wr.heap.size + 1, 0, none⟩) (tx T k).length cap)
    have h2 : w2.rowIs (w.heap.size + 1) 24 n _ := ((h1.alloc A).alloc (.cells arr 21)).of_block (hb2.block _ (by omega))
    have h3 := h2.set k (.slice (some ⟨g2, 0, none⟩) (tx T k).length cap2)
    exact h3.of_block (hgr.block _ (by simp; omega) (by simp; omega))
  · by_cases e : j = k
    · subst e
      rw [putV_self, putV_self]
      refine ⟨⟨wr.heap.size + 1, cap, rfl, by omega, by omega, fun i hi => ?_⟩, ⟨g2, cap2, by rw [hV, List.length_reverse], by omega, hlt3, fun i hi => ?_⟩⟩
      · refine fcell (w := w2) ?_ ?_
        · rw [hgr.block _ (by simp; omega) (by simp; omega), Below.heap_setCell _ _ _ _ (by show wr.heap.size + 1 ≠ w.heap.size + 1; omega)]
        · refine fcell (hb2.block _ (by omega)) ?_
          have : ((((wr.setCell ⟨w.heap.size, j, none⟩ (.slice (some ⟨wr.heap.size + 1, 0, none⟩) (tx T j).length cap)).alloc A).alloc (.cells arr 21))).heap[wr.heap.size + 1]? = some (.cells arr 21) := by
            have := Go.Deep.blk_alloc_new ((wr.setCell ⟨w.heap.size, j, none⟩ (.slice (some ⟨wr.heap.size + 1, 0, none⟩) (tx T j).length cap)).alloc A) (.cells arr 21)
            simpa using this
          unfold World.cell?
          dsimp only
          rw [this]
          exact harr i hi
      · rw [hV, List.length_reverse] at hi
        rw [hV]; exact hown i hi
    · rw [putV_other _ _ e, putV_other _ _ e]
      obtain ⟨a, b⟩ := h.txt j (by omega)
      exact ⟨a.same (fun g h1 h2 => far g h2 (by omega) (by omega)) (by omega), b.same (fun g h1 h2 => far g h2 (by omega) (by omega)) (by omega)⟩

/-- The box: forward, backward, start, links. -/
def pxF (a b c d : Value) (i : Nat) : Value := if i = 0 then a else if i = 1 then b else if i = 2 then c else d

/-- A row of int32 numbers. -/
def stF (Z : Nat → Nat) (j : Nat) : Value := .int .i32 (Z j : Nat)

/-- Behind the tries: the box and the row of starts, over the world w3. -/
structure DS (w3 wr : World) (a b c d : Value) (N1 : Nat) (Z : Nat → Nat) : Prop where
  bel : Below w3.heap.size w3 wr
  box : wr.rowIs w3.heap.size 71 4 (pxF a b c d)
  st : wr.rowIs (w3.heap.size + 1) 21 N1 (stF Z)

section
variable {w3 wr w' : World} {a b c d : Value} {N1 : Nat} {Z : Nat → Nat}

theorem DS.size (h : DS w3 wr a b c d N1 Z) : w3.heap.size + 2 ≤ wr.heap.size := h.st.lt

theorem DS.same (h : DS w3 wr a b c d N1 Z) (hb : Below (w3.heap.size + 2) wr w') : DS w3 w' a b c d N1 Z :=
  ⟨h.bel.trans (hb.mono (by omega)), h.box.of_block (hb.block _ (by omega)), h.st.of_block (hb.block _ (by omega))⟩

theorem DS.grown (h : DS w3 wr a b c d N1 Z) {row : Option Nat} (hg : wr.grownBy w' row) (hr : ∀ k, row = some k → w3.heap.size + 2 ≤ k) : DS w3 w' a b c d N1 Z :=
  h.same ((Below.refl _ _).grown hg h.size hr)

theorem DS.put (h : DS w3 wr a b c d N1 Z) (j x : Nat) : DS w3 (wr.setCell ⟨w3.heap.size + 1, j, none⟩ (.int .i32 (x : Nat))) a b c d N1 (fun i => if i = j then x else Z i) :=
  ⟨h.bel.setCell (by show w3.heap.size ≤ w3.heap.size + 1; omega) _, h.box.setOther (by show w3.heap.size ≠ w3.heap.size + 1; omega) _, (h.st.set j _).congr (fun i hi => by unfold stF; by_cases e : i = j <;> simp [e])⟩

theorem DS.drewN (h : DS w3 wr a b c d N1 Z) (q : Nat) : DS w3 (wr.drewN q) a b c d N1 Z := h.same (dr_below _ _ q)
theorem DS.drew (h : DS w3 wr a b c d N1 Z) : DS w3 wr.drew a b c d N1 Z := h.same (dr_below _ _ 1)

theorem DS.congr (h : DS w3 wr a b c d N1 Z) {Z' : Nat → Nat} (e : ∀ j, j < N1 → Z j = Z' j) : DS w3 wr a b c d N1 Z' := ⟨h.bel, h.box, h.st.congr (fun i hi => by unfold stF; rw [e i hi])⟩

/-- The fourth cell is set. -/
theorem DS.put3 (h : DS w3 wr a b c d N1 Z) (v : Value) : DS w3 (wr.setCell ⟨w3.heap.size, 3, none⟩ v) a b c v N1 Z :=
  ⟨h.bel.setCell (Nat.le_refl _) _, (h.box.set 3 v).congr (fun i hi => by
    unfold pxF
    match i, hi with
    | 0, _ => rfl
    | 1, _ => rfl
    | 2, _ => rfl
    | 3, _ => rfl), h.st.setOther (by show w3.heap.size + 1 ≠ w3.heap.size; omega) _⟩

theorem DS.c0 (h : DS w3 wr a b c d N1 Z) : wr.cell? ⟨w3.heap.size, 0, none⟩ = some a := h.box.cell (by decide)
theorem DS.c1 (h : DS w3 wr a b c d N1 Z) : wr.cell? ⟨w3.heap.size, 1, none⟩ = some b := h.box.cell (by decide)
theorem DS.c2 (h : DS w3 wr a b c d N1 Z) : wr.cell? ⟨w3.heap.size, 2, none⟩ = some c := h.box.cell (by decide)
theorem DS.c3 (h : DS w3 wr a b c d N1 Z) : wr.cell? ⟨w3.heap.size, 3, none⟩ = some d := h.box.cell (by decide)
theorem DS.cs (h : DS w3 wr a b c d N1 Z) {j : Nat} (hj : j < N1) : wr.cell? ⟨w3.heap.size + 1, j, none⟩ = some (.int .i32 (Z j : Nat)) := h.st.cell hj

end

/-- A buffer of numbers that path may fill anew: none, or a block of its own. -/
def Buf (w : World) (base : Nat) (av : List Nat) (v : Value) : Prop :=
  v = .slice none 0 0 ∨ ∃ (g len cap : Nat) (f : Nat → Nat → Value), v = .slice (some ⟨g, 0, none⟩) len cap ∧ base ≤ g ∧ g ∉ av ∧ OwnK w 21 1 g cap len f

theorem Buf.same {w w' : World} {base : Nat} {av : List Nat} {v : Value} (h : Buf w base av v) (hs : ∀ g, base ≤ g → g ∉ av → g < w.heap.size → w'.heap[g]? = w.heap[g]?) : Buf w' base av v := by
  rcases h with h | ⟨g, len, cap, f, rfl, h1, h2, h3⟩
  · exact .inl h
  · exact .inr ⟨g, len, cap, f, rfl, h1, h2, h3.of_block (hs g h1 h2 h3.lt)⟩

/-- Only the two blocks a and b have changed, of those that were. -/
structure Two (w w' : World) (a b : Nat) : Prop where
  os : w'.os = w.os
  tape : w'.tape = w.tape
  output : w'.output = w.output
  size : w.heap.size ≤ w'.heap.size
  block : ∀ k, k < w.heap.size → k ≠ a → k ≠ b → w'.heap[k]? = w.heap[k]?

theorem Two.refl (w : World) (a b : Nat) : Two w w a b := ⟨rfl, rfl, rfl, Nat.le_refl _, fun _ _ _ _ => rfl⟩
theorem Two.trans {w w1 w2 : World} {a b : Nat} (h : Two w w1 a b) (k : Two w1 w2 a b) : Two w w2 a b :=
  ⟨k.os.trans h.os, k.tape.trans h.tape, k.output.trans h.output, Nat.le_trans h.size k.size, fun i h1 h2 h3 => (k.block i (Nat.lt_of_lt_of_le h1 h.size) h2 h3).trans (h.block i h1 h2 h3)⟩
theorem Two.set1 {w w' : World} {a b : Nat} (h : Two w w' a b) (i : Nat) (v : Value) : Two w (w'.setCell ⟨a, i, none⟩ v) a b :=
  ⟨h.os, h.tape, h.output, by simpa using h.size, fun k h1 h2 h3 => by rw [Below.heap_setCell _ _ _ _ h2]; exact h.block k h1 h2 h3⟩
theorem Two.set2 {w w' : World} {a b : Nat} (h : Two w w' a b) (i : Nat) (v : Value) : Two w (w'.setCell ⟨b, i, none⟩ v) a b :=
  ⟨h.os, h.tape, h.output, by simpa using h.size, fun k h1 h2 h3 => by rw [Below.heap_setCell _ _ _ _ h3]; exact h.block k h1 h2 h3⟩
theorem Two.drew {w w' : World} {a b : Nat} (h : Two w w' a b) : Two w w'.drew a b := ⟨h.os, h.tape, h.output, h.size, h.block⟩
theorem Two.drewN {w w' : World} {a b : Nat} (h : Two w w' a b) (q : Nat) : Two w (w'.drewN q) a b := ⟨h.os, h.tape, h.output, h.size, h.block⟩
theorem Two.below {w w' : World} {a b B : Nat} (h : Two w w' a b) (ha : B ≤ a) (hb : B ≤ b) (hB : B ≤ w.heap.size) : Below B w w' :=
  ⟨h.os, h.tape, h.output, h.size, fun k hk => h.block k (by omega) (by omega) (by omega)⟩

end Go.Proofs.Qxb6608903a.Ix
