/-
  Law 6: what lies in memory on the way.
-/
import Derived.Test.Qxb6608903aLw
import Derived.Test.Qxb6608903aDs
import Derived.Test.Qxb6608903aRk
import Derived.Test.Qxb6608903aPt
namespace Go.Proofs.Qxb6608903a.Ix
open Go.RowKit Plain Mem Go.Sort Lk
open U hiding hid
open CmpW hiding cmp1 cmp2
set_option linter.unusedVariables false

/-- '[]rune(s)' lays a block of the runes, with room for them. -/
theorem conv_run2 (w : World) (s : ByteArray) (hs : s.size ≤ 1048576) : ∃ (cap : Nat) (arr : Array Value), (convert 9 24 (.string s)).run Try.prog w = .ok (.slice (some ⟨w.heap.size, 0, none⟩) (runes s).length cap) ((w.alloc (.cells arr 21)).drew) ∧ (runes s).length ≤ cap ∧ ∀ j, j < (runes s).length → arr[j]? = some (.int .i32 (rn (runes s) j)) := by
  have h := run_runes_of_string (P := Try.prog) w 9 24 21 s Try.underlying9 Try.underlying24 Try.underlying21 (by
    rw [runesFrom_runes]
    have := runes_len s
    simp; omega)
  rw [runesFrom_runes] at h
  have e : ((runes s).map fun r => Value.int .i32 r).toArray.size = (runes s).length := by simp
  rw [e] at h
  refine ⟨_, _, h, grownCap_ge _ _ _ _, ?_⟩
  intro j hj
  rw [Array.getElem?_append_left (by simpa using hj)]
  simp [hj]
  unfold rn
  rw [List.getD_eq_getElem?_getD, List.getElem?_eq_getElem hj]
  rfl

/-- The row of spellings while it is filled. -/
structure SPL (w1 wr : World) (n i : Nat) (str : Nat → ByteArray) (ch : Nat → Int) : Prop where
  bel : Below w1.heap.size w1 wr
  g : SpR wr w1.heap.size n i str ch

theorem SPL.start (w1 : World) (n : Nat) (hn : n ≤ 65536) (str : Nat → ByteArray) (ch : Nat → Int) : SPL w1 (w1.alloc (.cells (madeCells #[.string ⟨#[]⟩, .int .i64 0] (n * 2)) 40)) n 0 str ch :=
  ⟨(Below.refl _ _).alloc (Nat.le_refl _) _, SpR.made w1 n hn str ch⟩

theorem SPL.step {w1 wr : World} {n i : Nat} {str : Nat → ByteArray} {ch : Nat → Int} (h : SPL w1 wr n i str ch) (hi : i < n) (o1 : Obj) {w2 : World}
    (e2 : w2 = (((wr.setCell ⟨w1.heap.size, i * 2, none⟩ (.string (str i))).setCell ⟨w1.heap.size, i * 2 + 1, none⟩ (.int .i64 (ch i))).alloc o1).drew) : SPL w1 w2 n (i + 1) str ch := by
  have hl := h.g.lt
  refine ⟨?_, ?_⟩
  · rw [e2]
    exact (((h.bel.setCell (Nat.le_refl _) _).setCell (Nat.le_refl _) _).alloc (by simp; omega) _).drew
  · rw [e2]; exact (h.g.put hi).of_block (Below.heap_alloc _ _ _ (by simp; omega))

/-- A text in a block of its own, B or behind it, with room. -/
def RQ (w : World) (B : Nat) (v : Value) (t : List Int) : Prop :=
  ∃ g cap : Nat, v = .slice (some ⟨g, 0, none⟩) t.length cap ∧ t.length ≤ cap ∧ B ≤ g ∧ g < w.heap.size ∧ ∀ j, j < t.length → w.cell? ⟨g, j, none⟩ = some (.int .i32 (rn t j))

theorem RQ.same {w w' : World} {B : Nat} {v : Value} {t : List Int} (h : RQ w B v t) (hs : ∀ g, B ≤ g → g < w.heap.size → w'.heap[g]? = w.heap[g]?) (hz : w.heap.size ≤ w'.heap.size) : RQ w' B v t := by
  obtain ⟨g, cap, rfl, h0, h1, h2, h3⟩ := h
  exact ⟨g, cap, rfl, h0, h1, by omega, fun j hj => fcell (hs g h1 h2) (h3 j hj)⟩

/-- Loop 4: the two rows of slices; the first k texts and their turned ones. -/
structure FB (w wr : World) (n k : Nat) (T V : List (List Int)) (F G : Nat → Value) : Prop where
  bel : Below w.heap.size w wr
  rt : wr.rowIs w.heap.size 24 n F
  rr : wr.rowIs (w.heap.size + 1) 24 n G
  txt : ∀ j, j < k → RQ wr (w.heap.size + 2) (F j) (tx T j) ∧ RQ wr (w.heap.size + 2) (G j) (tx V j)

theorem FB.start (w : World) (n : Nat) (T V : List (List Int)) : FB w ((w.alloc (.cells (madeCells #[.slice none 0 0] n) 24)).alloc (.cells (madeCells #[.slice none 0 0] n) 24)) n 0 T V (fun _ => .slice none 0 0) (fun _ => .slice none 0 0) where
  bel := ((Below.refl _ _).alloc (Nat.le_refl _) _).alloc (by simp) _
  rt := (World.rowIs_made w _ n 24).alloc _
  rr := by have := World.rowIs_made (w.alloc (.cells (madeCells #[.slice none 0 0] n) 24)) (.slice none 0 0) n 24
           simpa using this
  txt := fun j hj => by omega

/-- The turned text while it is filled. -/
def rvF (t : List Int) (m j i : Nat) : Value := if i < j then .int .i32 (rn t (m - 1 - i)) else .int .i32 0

theorem rvF_put (t : List Int) (m j i : Nat) : (if i = j then Value.int .i32 (rn t (m - 1 - j)) else rvF t m j i) = rvF t m (j + 1) i := by
  unfold rvF
  by_cases e : i = j
  · subst e; rw [if_pos rfl, if_pos (by omega)]
  · rw [if_neg e]
    by_cases h : i < j
    · rw [if_pos h, if_pos (by omega)]
    · rw [if_neg h, if_neg (by omega)]

theorem rvF_end (t : List Int) {i : Nat} (h : i < t.length) : rvF t t.length t.length i = .int .i32 (rn t.reverse i) := by
  unfold rvF rn
  rw [if_pos h, List.getD_eq_getElem?_getD, List.getD_eq_getElem?_getD, List.getElem?_reverse h]

/-- One text and its turned one are laid. -/
theorem FB.step {w wr w2 : World} {n k : Nat} {T V : List (List Int)} {F G : Nat → Value} (h : FB w wr n k T V F G) (hk : k < n) (arr : Array Value) (cap cap2 : Nat) {wB wA : World}
    (hV : tx V k = (tx T k).reverse) (hcap : (tx T k).length ≤ cap) (hcap2 : (tx T k).length ≤ cap2)
    (harr : ∀ j, j < (tx T k).length → arr[j]? = some (.int .i32 (rn (tx T k) j)))
    (hB : ∀ g : Nat, wB.heap[g]? = ((wr.setCell ⟨w.heap.size, k, none⟩ (.slice (some ⟨wr.heap.size, 0, none⟩) (tx T k).length cap)).alloc (.cells arr 21)).heap[g]?)
    (hBs : wB.heap.size = wr.heap.size + 1) (hBo : wB.os = wr.os ∧ wB.tape = wr.tape ∧ wB.output = wr.output)
    (hb2 : Below (wr.heap.size + 1) wB w2)
    (hrow : ∀ j, j < (tx T k).length → w2.cell? ⟨wr.heap.size + 1, j, none⟩ = some (.int .i32 (rn (tx T k).reverse j))) (hlt2 : wr.heap.size + 1 < w2.heap.size) :
    FB w (w2.setCell ⟨w.heap.size + 1, k, none⟩ (.slice (some ⟨wr.heap.size + 1, 0, none⟩) (tx T k).length cap2)) n (k + 1) T V (putV F k (.slice (some ⟨wr.heap.size, 0, none⟩) (tx T k).length cap)) (putV G k (.slice (some ⟨wr.heap.size + 1, 0, none⟩) (tx T k).length cap2)) := by
  have hsz := h.rr.lt
  have far : ∀ g, g < wr.heap.size → g ≠ w.heap.size → g ≠ w.heap.size + 1 → (w2.setCell ⟨w.heap.size + 1, k, none⟩ (.slice (some ⟨wr.heap.size + 1, 0, none⟩) (tx T k).length cap2)).heap[g]? = wr.heap[g]? := fun g h1 h2 h3 => by
    rw [Below.heap_setCell _ _ _ _ h3, hb2.block g (by omega), hB, Below.heap_alloc _ _ _ (by simpa using h1), Below.heap_setCell _ _ _ _ h2]
  refine ⟨⟨?_, ?_, ?_, by have := h.bel.size; simp; omega, fun g hg => ?_⟩, ?_, ?_, fun j hj => ?_⟩
  · exact hb2.os.trans (hBo.1.trans h.bel.os)
  · exact hb2.tape.trans (hBo.2.1.trans h.bel.tape)
  · exact hb2.output.trans (hBo.2.2.trans h.bel.output)
  · rw [far g (by omega) (by omega) (by omega)]; exact h.bel.block g hg
  · have h1 := h.rt.set k (.slice (some ⟨wr.heap.size, 0, none⟩) (tx T k).length cap)
    have h2 : w2.rowIs w.heap.size 24 n _ := ((h1.alloc (.cells arr 21)).of_block (hB _)).of_block (hb2.block _ (by omega))
    exact h2.setOther (a := ⟨w.heap.size + 1, k, none⟩) (by show w.heap.size ≠ w.heap.size + 1; omega) _
  · have h1 := h.rr.setOther (a := ⟨w.heap.size, k, none⟩) (by show w.heap.size + 1 ≠ w.heap.size; omega) (.slice (some ⟨wr.heap.size, 0, none⟩) (tx T k).length cap)
    have h2 : w2.rowIs (w.heap.size + 1) 24 n _ := ((h1.alloc (.cells arr 21)).of_block (hB _)).of_block (hb2.block _ (by omega))
    exact h2.set k _
  · by_cases e : j = k
    · subst e
      rw [putV_self, putV_self]
      refine ⟨⟨wr.heap.size, cap, rfl, hcap, by omega, by simp; omega, fun i hi => ?_⟩, ⟨wr.heap.size + 1, cap2, by rw [hV, List.length_reverse], by rw [hV, List.length_reverse]; exact hcap2, by omega, by simpa using hlt2, fun i hi => ?_⟩⟩
      · refine fcell (w := wB) ?_ ?_
        · rw [Below.heap_setCell _ _ _ _ (by show wr.heap.size ≠ w.heap.size + 1; omega), hb2.block _ (by omega)]
        · have : wB.heap[wr.heap.size]? = some (.cells arr 21) := by
            rw [hB]
            have := Go.Deep.blk_alloc_new (wr.setCell ⟨w.heap.size, j, none⟩ (.slice (some ⟨wr.heap.size, 0, none⟩) (tx T j).length cap)) (.cells arr 21)
            simpa using this
          unfold World.cell?
          dsimp only
          rw [this]
          exact harr i hi
      · rw [hV, List.length_reverse] at hi
        rw [hV]
        exact fcell (Below.heap_setCell _ _ _ _ (by show wr.heap.size + 1 ≠ w.heap.size + 1; omega)) (hrow i hi)
    · rw [putV_other _ _ e, putV_other _ _ e]
      obtain ⟨a, b⟩ := h.txt j (by omega)
      exact ⟨a.same (fun g h1 h2 => far g h2 (by omega) (by omega)) (by simp; omega), b.same (fun g h1 h2 => far g h2 (by omega) (by omega)) (by simp; omega)⟩

/-- The rows filled, as the readers say it. -/
theorem tb_of {w : World} {b B n : Nat} {T : List (List Int)} {F : Nat → Value} (hr : w.rowIs b 24 n F) (hT : T.length = n) (ht : ∀ j, j < n → RQ w B (F j) (tx T j)) : ∃ G C : Nat → Nat, TB w b T G C := by
  have h1 : ∀ j, ∃ gc : Nat × Nat, j < n → F j = .slice (some ⟨gc.1, 0, none⟩) (tx T j).length gc.2 ∧ (tx T j).length ≤ gc.2 ∧ ∀ i, i < (tx T j).length → w.cell? ⟨gc.1, i, none⟩ = some (.int .i32 (rn (tx T j) i)) := fun j => by
    by_cases hj : j < n
    · obtain ⟨g, cap, e, h0, _, _, h3⟩ := ht j hj
      exact ⟨(g, cap), fun _ => ⟨e, h0, h3⟩⟩
    · exact ⟨(0, 0), fun h => absurd h hj⟩
  have hf := fun j => Classical.choose_spec (h1 j)
  refine ⟨fun j => (Classical.choose (h1 j)).1, fun j => (Classical.choose (h1 j)).2, ⟨fun j hj => ?_, fun j hj => ?_, fun j hj => ?_⟩⟩
  · rw [hT] at hj
    exact (hr.cell hj).trans (congrArg some (hf j hj).1)
  · rw [hT] at hj
    exact (hf j hj).2.1
  · rw [hT] at hj
    exact (hf j hj).2.2

theorem TB.texts {w : World} {b : Nat} {T : List (List Int)} {G C : Nat → Nat} (h : TB w b T G C) : T = [] ∨ ∃ b' off, (some (⟨b, 0, none⟩ : Addr)) = some ⟨b', off, none⟩ ∧ ∀ j, j < T.length → ∃ u, w.cell? ⟨b', off + j, none⟩ = some u ∧ RunesAt w u (tx T j) :=
  .inr ⟨b, 0, rfl, fun j hj => ⟨_, by rw [Nat.zero_add]; exact h.cell j hj, _, _, rfl, .inr ⟨_, 0, rfl, fun i hi => by rw [Nat.zero_add]; exact h.runes j hj i hi⟩⟩⟩

/-- A row of pairs while it grows: none yet, or a block of its own. -/
def nA (P : List (Nat × Int)) (j : Nat) : Nat := (P.getD j (0, 0)).1
def nB (P : List (Nat × Int)) (j : Nat) : Int := (P.getD j (0, 0)).2

def PV (w : World) (B : Nat) (v : Value) (P : List (Nat × Int)) : Prop := w.ownsRow B 58 2 v P.length (Mem.flatK 2 (pF .u64 (nA P) (nB P)) P.length)

theorem PV.start (w : World) (B : Nat) : PV w B (.slice none 0 0) [] := World.ownsRow_nil _ _ _ _

theorem PV.of {w : World} {B g cap : Nat} {P : List (Nat × Int)} (h : PV w B (.slice (some ⟨g, 0, none⟩) P.length cap) P) : OwnK w 58 2 g cap P.length (pF .u64 (nA P) (nB P)) ∧ B ≤ g := by
  refine own_of h fun c i hc hi => ?_
  exact flatK_get 2 _ _ hc hi

theorem PV.push {w : World} {B g cap : Nat} {P : List (Nat × Int)} {a : Nat} {l : Int}
    (h : w.ownsRow B 58 2 (.slice (some ⟨g, 0, none⟩) (P.length + 1) cap) (P.length + 1) (Mem.flatK 2 (pF .u64 (nA P) (nB P)) P.length ++ [.int .i64 (a : Nat), .int .u64 l])) : PV w B (.slice (some ⟨g, 0, none⟩) (P ++ [(a, l)]).length cap) (P ++ [(a, l)]) := by
  obtain ⟨h1, h2⟩ := pr_push (A' := nA (P ++ [(a, l)])) (B' := nB (P ++ [(a, l)])) h (fun c hc => by unfold nA; rw [pget_left hc]) (fun c hc => by unfold nB; rw [pget_left hc]) (by unfold nA; rw [pget_snoc]) (by unfold nB; rw [pget_snoc])
  have h3 := h1.owns (by decide) h2
  unfold PV
  rw [List.length_append]
  exact h3

theorem PV.same {w w' : World} {B : Nat} {v : Value} {P : List (Nat × Int)} (h : PV w B v P) (hs : ∀ k : Nat, k < w.heap.size → w'.heap[k]? = w.heap[k]?) : PV w' B v P := by
  refine ⟨h.1, ?_⟩
  rcases h.2 with h1 | ⟨g, cap, cur, e, hb, hg, rest⟩
  · exact .inl h1
  · have hlt : g < w.heap.size := by
      rcases Nat.lt_or_ge g w.heap.size with h | h
      · exact h
      · rw [Array.getElem?_eq_none h] at hg; cases hg
    exact .inr ⟨g, cap, cur, e, hb, by rw [hs g hlt]; exact hg, rest⟩

theorem PV.shape {w : World} {B : Nat} {v : Value} {P : List (Nat × Int)} (h : PV w B v P) : ∃ (a : Option Addr) (cap : Nat), v = .slice a P.length cap ∧ (P = [] ∨ ∃ g, a = some ⟨g, 0, none⟩ ∧ PR w g P.length .u64 (nA P) (nB P)) := by
  rcases h.2 with ⟨h1, h2⟩ | ⟨g, cap, cur, e, hb, hg, rest⟩
  · exact ⟨none, 0, by rw [h1, h2], .inl (List.length_eq_zero_iff.1 h2)⟩
  · subst e
    exact ⟨_, cap, rfl, .inr ⟨g, rfl, pr_of (PV.of h).1⟩⟩

theorem cmpP_trans (a1 : Nat) (b1 : Int) (a2 : Nat) (b2 : Int) (a3 : Nat) (b3 : Int) (h1 : cmpP a1 b1 a2 b2 ≤ 0) (h2 : cmpP a2 b2 a3 b3 ≤ 0) : cmpP a1 b1 a3 b3 ≤ 0 := by
  unfold cmpP at *
  split at h1 <;> split at h2 <;> (repeat' split at h1) <;> (repeat' split at h2) <;> split <;> (repeat' split) <;> omega

theorem cmpP_anti (a1 : Nat) (b1 : Int) (a2 : Nat) (b2 : Int) (h : 0 ≤ cmpP a1 b1 a2 b2) : cmpP a2 b2 a1 b1 ≤ 0 := by
  unfold cmpP at *
  split at h <;> (repeat' split at h) <;> split <;> (repeat' split) <;> omega

/-- The sort of the pairs. -/
theorem pairs_sort (w : World) (po : Nat) (P : List (Nat × Int)) (a : Option Addr) (cap : Nat) (hP : P.length ≤ 2162688) (h0 : w.cell? ⟨po, 0, none⟩ = some (.int .i64 2)) (h3 : w.cell? ⟨po, 3, none⟩ = some (.slice a P.length cap))
    (hp : P = [] ∨ ∃ g, a = some ⟨g, 0, none⟩ ∧ PR w g P.length .u64 (nA P) (nB P)) :
    Calls Try.prog 25 #[.pointer (some ⟨po, 0, none⟩), .int .i64 (P.length : Nat)] w fun e w' => ∃ (g : Nat) (I : Nat → Nat), e = .returned (.slice (some ⟨g, 0, none⟩) P.length P.length) ∧ w'.rowIs g 3 P.length (SortW.rowF I) ∧ (seg I 0 P.length).Perm (List.range P.length) ∧ (∀ p q, p < q → q < P.length → cmpP (P.getD (I p) (0, 0)).1 (P.getD (I p) (0, 0)).2 (P.getD (I q) (0, 0)).1 (P.getD (I q) (0, 0)).2 ≤ 0) ∧ w.heap.size ≤ g ∧ Below w.heap.size w w' := by
  have hok : SortW.CmpOK (.pointer (some ⟨po, 0, none⟩)) P.length (fun x y => cmpP (nA P x) (nB P x) (nA P y) (nB P y)) w := fun W hW x y hx hy => by
    rcases hp with rfl | ⟨g, rfl, hpr⟩
    · simp at hx
    · exact CmpW.cmp2 W po g P.length cap (nA P) (nB P) x y hx hy (by rw [hW.cell (old_of h0)]; exact h0) (by rw [hW.cell (old_of h3)]; exact h3) (hpr.same hW)
  exact SortW.sortIdx (.pointer (some ⟨po, 0, none⟩)) P.length _ w (by omega) hok (fun x y z _ _ _ h1 h2 => cmpP_trans _ _ _ _ _ _ h1 h2) (fun x y _ _ h => cmpP_anti _ _ _ _ h)

end Go.Proofs.Qxb6608903a.Ix
