/-
  newTrie (26): the walk.
-/
import Derived.Test.Qxb6608903aRows
import Derived.Test.Qxb6608903aPb
import Derived.Test.Qxb6608903aNod
import Derived.Test.Qxb6608903aRowK
import Derived.WalkKit
import Derived.Deep.QuietTactic
import Derived.BigQuiet
import Derived.Deep.DeepCutAuto
import Derived.Deep.RegionHeld3
import Derived.Deep.RegionLaw
import Derived.Deep.DrawnRows
namespace Go.Proofs.Qxb6608903a.TrieW
open Go.RowKit Plain Mem Srt
set_option linter.unusedVariables false
attribute [local go_sem ↓] Go.wp_at_zero Go.wp_at_succ

theorem hid {p : Prop} (h : p) : Hid p := h

theorem info78 : (Try.prog.info? 78).map (fun i => (i.zero, i.size, i.bytes)) = some (some (.agg #[.int .i32 0, .int .i32 0, .int .i32 0]), 3, 12) := by kernel_rfl
theorem info68 : (Try.prog.info? 68).map (fun i => (i.zero, i.size, i.bytes)) = some (some (.agg #[.int .i32 0, .int .i32 0, .int .i32 0]), 3, 12) := by kernel_rfl
theorem info21 : (Try.prog.info? 21).map (fun i => (i.zero, i.size, i.bytes)) = some (some (.int .i32 0), 1, 4) := by kernel_rfl

/-- The cells of the chains. -/
def chF (S : List (List Int)) (c i : Nat) : Value := .int .i32 (chCell S c i)

theorem own_first (w : World) (cap : Nat) (h : 1 ≤ cap) (hc : cap ≤ maxLen) : OwnK (w.alloc (.cells (madeCells #[.int .i32 0, .int .i32 0, .int .i32 0] (cap * 3)) 78)) 78 3 w.heap.size cap ([[]] : List (List Int)).length (chF [[]]) :=
  (own_made w #[.int .i32 0, .int .i32 0, .int .i32 0] 78 3 cap 1 rfl (by decide) h hc).congr (fun c i hc hi => by
    obtain rfl : c = 0 := by omega
    match i, hi with
    | 0, _ => rfl
    | 1, _ => rfl
    | 2, _ => rfl)

/-- The cells when the new label lies behind the old ones, ahead of the link to it. -/
def chG (S : List (List Int)) (r : Int) (c i : Nat) : Value := if c < S.length then chF S c i else if i = 0 then .int .i32 r else .int .i32 0

theorem own_pushed {w : World} {base g cap : Nat} {S : List (List Int)} {r : Int}
    (h : w.ownsRow base 78 3 (.slice (some ⟨g, 0, none⟩) (S.length + 1) cap) (S.length + 1) (Mem.flatK 3 (chF S) S.length ++ [.int .i32 r, .int .i32 0, .int .i32 0])) :
    OwnK w 78 3 g cap (S.length + 1) (chG S r) ∧ base ≤ g :=
  own_snoc h (fun c i hc hi => by unfold chG; rw [if_pos hc]) (fun i hi => by
    unfold chG
    rw [if_neg (by omega)]
    match i, hi with
    | 0, _ => rfl
    | 1, _ => rfl
    | 2, _ => rfl)

theorem own_first_child {w : World} {g cap : Nat} {S : List (List Int)} (hT : Tr S) {n : Nat} (hn : n < S.length) {r : Int} (hs : Seek S n r 0 0) (h : OwnK w 78 3 g cap (S.length + 1) (chG S r)) :
    OwnK (w.setCell ⟨g, n * 3 + 1, none⟩ (.int .i32 S.length)) 78 3 g cap (S ++ [S.getD n [] ++ [r]]).length (chF (S ++ [S.getD n [] ++ [r]])) := by
  rw [List.length_append]
  refine (h.set (c := n) (i := 1) (by omega) (by decide) _).congr fun c i hc hi => ?_
  unfold chF chG
  rw [chCell_first hT hn hs c i hc hi]
  by_cases e : c = n ∧ i = 1
  · rw [if_pos e, if_pos e]
  · rw [if_neg e, if_neg e]
    unfold chF
    by_cases e2 : c < S.length
    · rw [if_pos e2, if_pos e2]
    · rw [if_neg e2, if_neg e2]
      by_cases e3 : i = 0
      · rw [if_pos e3, if_pos e3]
      · rw [if_neg e3, if_neg e3]

theorem own_next_sibling {w : World} {g cap : Nat} {S : List (List Int)} (hT : Tr S) {n : Nat} (hn : n < S.length) {r : Int} {last : Nat} (hl : last ≠ 0) (hs : Seek S n r last 0) (h : OwnK w 78 3 g cap (S.length + 1) (chG S r)) :
    OwnK (w.setCell ⟨g, last * 3 + 2, none⟩ (.int .i32 S.length)) 78 3 g cap (S ++ [S.getD n [] ++ [r]]).length (chF (S ++ [S.getD n [] ++ [r]])) := by
  have hll : last < S.length := by
    rcases hs.lst with e | e
    · exact absurd e hl
    · exact e.1
  rw [List.length_append]
  refine (h.set (c := last) (i := 2) (by omega) (by decide) _).congr fun c i hc hi => ?_
  unfold chF chG
  rw [chCell_next hT hn hl hs c i hc hi]
  by_cases e : c = last ∧ i = 2
  · rw [if_pos e, if_pos e]
  · rw [if_neg e, if_neg e]
    unfold chF
    by_cases e2 : c < S.length
    · rw [if_pos e2, if_pos e2]
    · rw [if_neg e2, if_neg e2]
      by_cases e3 : i = 0
      · rw [if_pos e3, if_pos e3]
      · rw [if_neg e3, if_neg e3]

theorem own_ge {g base : Nat} (h : base ≤ g) {n cap : Nat} : ∀ k, (Value.slice (some ⟨g, 0, none⟩) n cap).ownBlock = some k → base ≤ k := by
  intro k hk
  simp [Value.ownBlock] at hk
  omega

/-- What stands at the head of the loop that lays the nodes out. -/
structure L5 (S : List (List Int)) (B : Nat) (w0 w' : World) (i : Nat) (M : List (List Int)) (gn cn gl cl : Nat) : Prop where
  bf : BF S M i
  nod : OwnK w' 68 3 gn cn M.length (ndF S M i)
  lay : OwnK w' 21 1 gl cl M.length (ldF S M)
  tt : w'.rowIs (B + 1) 65 1 (fun _ => .slice (some ⟨gn, 0, none⟩) M.length cn)
  bel : Below B w0 w'
  bn : B ≤ gn
  bl : B ≤ gl
  n1 : gn ≠ B + 1
  n2 : gl ≠ B + 1
  n3 : gn ≠ gl

theorem L5.start {S : List (List Int)} (hT : Tr S) (w0 : World) (hc : S.length ≤ maxLen) :
    L5 S w0.heap.size w0 (((w0.alloc (.cells (madeCells #[.int .i32 0, .int .i32 0, .int .i32 0] (S.length * 3)) 68)).alloc (.cells #[.slice (some ⟨w0.heap.size, 0, none⟩) 1 S.length] 65)).alloc (.cells #[.int .i32 0] 21)) 0 [[]] w0.heap.size S.length (w0.heap.size + 1 + 1) 1 := by
  have hi : S.idxOf [] = 0 := by
    have := ix_getD hT.nodup hT.pos
    rw [hT.head] at this
    exact this
  have s1 : (w0.alloc (.cells (madeCells #[.int .i32 0, .int .i32 0, .int .i32 0] (S.length * 3)) 68)).heap.size = w0.heap.size + 1 := by simp
  have s2 : ((w0.alloc (.cells (madeCells #[.int .i32 0, .int .i32 0, .int .i32 0] (S.length * 3)) 68)).alloc (.cells #[.slice (some ⟨w0.heap.size, 0, none⟩) 1 S.length] 65)).heap.size = w0.heap.size + 1 + 1 := by simp
  refine ⟨BF.start hT, ?_, ?_, ?_, ?_, Nat.le_refl _, by omega, by omega, by omega, by omega⟩
  · have h := own_made w0 #[.int .i32 0, .int .i32 0, .int .i32 0] 68 3 S.length 1 rfl (by decide) hT.pos hc
    refine ((h.alloc _).alloc _).congr fun c f hc hf => ?_
    obtain rfl : c = 0 := by omega
    unfold ndF
    have e : ([[]] : List (List Int)).getD 0 [] = [] := rfl
    rw [e, hi]
    match f, hf with
    | 0, _ => rfl
    | 1, _ => rfl
    | 2, _ => rfl
  · refine ⟨#[.int .i32 0], ?_, Nat.le_refl _, by unfold maxLen; omega, rfl, fun c f hc hf => ?_⟩
    · rw [← s2]; exact Go.Deep.blk_alloc_new _ _
    · obtain rfl : c = 0 := by simpa using hc
      obtain rfl : f = 0 := by omega
      unfold ldF
      have e : ([[]] : List (List Int)).getD 0 [] = [] := rfl
      rw [e, hi]
      rfl
  · rw [← s1]
    exact (World.rowIs_alloc _ #[.slice (some ⟨w0.heap.size, 0, none⟩) 1 S.length] 65 (fun _ => .slice (some ⟨w0.heap.size, 0, none⟩) 1 S.length) (fun i hi => by
      have h0 : i = 0 := by simpa using hi
      subst h0; rfl)).alloc _
  · exact (((Below.refl _ _).alloc (Nat.le_refl _) _).alloc (by simp) _).alloc (by simp; omega) _

/-- The measure of the walk along a chain. -/
def muC (n : Nat) (v : Value) : Nat := if intOf v = 0 then 0 else n - (intOf v).toNat

/-- What stands at the head of the loop along a chain of children. -/
structure L6 (S : List (List Int)) (B : Nat) (w0 w' : World) (i : Nat) (M : List (List Int)) (u : List Int) (c : Nat) (D : List (List Int)) (gn cn gl cl : Nat) : Prop where
  kid : KidSt S u c D
  nod : OwnK w' 68 3 gn cn (M ++ D).length (ndF S (M ++ D) i)
  lay : OwnK w' 21 1 gl cl M.length (ldF S M)
  tt : w'.rowIs (B + 1) 65 1 (fun _ => .slice (some ⟨gn, 0, none⟩) (M ++ D).length cn)
  bel : Below B w0 w'
  bn : B ≤ gn
  bl : B ≤ gl
  n1 : gn ≠ B + 1
  n2 : gl ≠ B + 1
  n3 : gn ≠ gl

theorem L5.kids {S : List (List Int)} (hT : Tr S) {B : Nat} {w0 w' : World} {i : Nat} {M : List (List Int)} {gn cn gl cl : Nat} (h : L5 S B w0 w' i M gn cn gl cl) (u : List Int) : L6 S B w0 w' i M u (nx S u 1) [] gn cn gl cl := by
  refine ⟨KidSt.start hT u, ?_, h.lay, ?_, h.bel, h.bn, h.bl, h.n1, h.n2, h.n3⟩
  · rw [List.append_nil]; exact h.nod
  · rw [List.append_nil]; exact h.tt

theorem muC_cast (n c : Nat) : muC n (.int .i32 c) = if c = 0 then 0 else n - c := by
  unfold muC
  have : intOf (.int .i32 (c : Nat)) = (c : Int) := rfl
  rw [this]
  by_cases h : c = 0
  · subst h; rfl
  · rw [if_neg (by omega), if_neg h]; simp

theorem ns_gt {S : List (List Int)} {c : Nat} (h : c ≠ 0) : ns S c = 0 ∨ (c < ns S c ∧ ns S c < S.length) := by
  unfold ns
  rw [if_neg h]
  rcases nx_spec S (S.getD c []).dropLast (c + 1) with ⟨h1, _⟩ | ⟨h1, h2, _⟩
  · exact .inl h1
  · exact .inr ⟨by omega, h2⟩

theorem far_append {w w' : World} {cs : Array Value} {t : Nat} {gn n cap : Nat} (hg : (w.alloc (.cells cs t)).drew.grownBy w' (Value.slice (some ⟨gn, 0, none⟩) n cap).ownBlock) {k : Nat} (hk : k < w.heap.size) (hne : k ≠ gn) : w'.heap[k]? = w.heap[k]? := by
  have h1 : w'.heap[k]? = (w.alloc (.cells cs t)).drew.heap[k]? := hg.block k (by simp; omega) (by simp [Value.ownBlock]; omega)
  rw [h1]
  exact Below.heap_alloc w _ k hk

theorem far_cell {w w' : World} {k : Nat} (h : w'.heap[k]? = w.heap[k]?) {o : Nat} {v : Value} (hc : w.cell? ⟨k, o, none⟩ = some v) : w'.cell? ⟨k, o, none⟩ = some v := by
  rw [World.cell?_of_block (w := w) h]; exact hc
theorem far_frozen {w w' : World} {k : Nat} (h : w'.heap[k]? = w.heap[k]?) {o : Nat} {b : Bool} (hc : w.frozen? ⟨k, o, none⟩ = b) : w'.frozen? ⟨k, o, none⟩ = b := by
  rw [World.frozen?_of_block (w := w) h]; exact hc

theorem rowIs_one {w : World} {b t : Nat} {f : Nat → Value} (h : w.rowIs b t 1 f) (v : Value) : (w.setCell ⟨b, 0, none⟩ v).rowIs b t 1 (fun _ => v) :=
  (h.set 0 v).congr fun i hi => by rw [if_pos (by omega)]

theorem L6.push {S : List (List Int)} (hT : Tr S) {B : Nat} {w0 w : World} {i : Nat} {M : List (List Int)} {u : List Int} {c : Nat} {D : List (List Int)} {gn cn gl cl : Nat} (h : L6 S B w0 w i M u c D gn cn gl cl)
    (hi : i ≤ M.length) (hB : B ≤ w.heap.size) (hc0 : c ≠ 0) {w8 : World} {g2 cp2 n cap : Nat} {cs : Array Value} {t : Nat} {L : Nat} (hL : (M ++ D).length = L) {ch : Int} (hch : lastC (S.getD c []) = ch)
    (hown : w8.ownsRow B 68 3 (.slice (some ⟨g2, 0, none⟩) (L + 1) cp2) (L + 1) (Mem.flatK 3 (ndF S (M ++ D) i) L ++ [.int .i32 ch, .int .i32 (c : Nat), .int .i32 0]))
    (hgrow : (w.alloc (.cells cs t)).drew.grownBy w8 (Value.slice (some ⟨gn, 0, none⟩) n cap).ownBlock) (hat : (Value.slice (some ⟨gn, 0, none⟩) n cap).ownBlock = some g2 ∨ g2 = w.heap.size + 1) :
    L6 S B w0 (w8.setCell ⟨B + 1, 0, none⟩ (.slice (some ⟨g2, 0, none⟩) (L + 1) cp2)) i M u (ns S c) (D ++ [S.getD c []]) g2 cp2 gl cl := by
  subst hL hch
  obtain ⟨hcS, hst⟩ := h.kid.step hc0
  have hg2 : g2 = gn ∨ g2 = w.heap.size + 1 := by
    rcases hat with e | e
    · left; simp [Value.ownBlock] at e; omega
    · exact .inr e
  have htl := h.tt.lt
  have hll := h.lay.lt
  have hnl := h.nod.lt
  have hne : g2 ≠ B + 1 := by
    rcases hg2 with e | e
    · rw [e]; exact h.n1
    · omega
  obtain ⟨hp, hb2⟩ := own_node_pushed hi (ix_getD hT.nodup hcS) hown
  have hlen : (M ++ (D ++ [S.getD c []])).length = (M ++ D).length + 1 := by simp; omega
  have hsz : w.heap.size ≤ (w.alloc (.cells cs t)).drew.heap.size := by simp
  refine ⟨hst, hp.setOther hne _, (h.lay.of_block (far_append hgrow hll (Ne.symm h.n3))).setOther h.n2 _, ?_, ?_, hb2, h.bl, hne, h.n2, ?_⟩
  · rw [hlen]
    exact rowIs_one (h.tt.of_block (far_append hgrow htl (Ne.symm h.n1))) _
  · exact (((h.bel.alloc hB _).drew).grown hgrow (by omega) (own_ge h.bn)).setCell (by exact Nat.le_succ B) _
  · rcases hg2 with e | e
    · rw [e]; exact h.n3
    · omega

/-- What stands at the head of the loop that lays the children's chain nodes down. -/
structure L7 (S : List (List Int)) (B : Nat) (w0 w' : World) (i : Nat) (M D : List (List Int)) (j gn cn gl cl : Nat) : Prop where
  nod : OwnK w' 68 3 gn cn (M ++ D).length (ndF S (M ++ D) i)
  lay : OwnK w' 21 1 gl cl (M ++ D.take j).length (ldF S (M ++ D.take j))
  tt : w'.rowIs (B + 1) 65 1 (fun _ => .slice (some ⟨gn, 0, none⟩) (M ++ D).length cn)
  bel : Below B w0 w'
  bn : B ≤ gn
  bl : B ≤ gl
  n1 : gn ≠ B + 1
  n2 : gl ≠ B + 1
  n3 : gn ≠ gl

theorem L6.sorted {S : List (List Int)} {B : Nat} {w0 w w' : World} {i : Nat} {M : List (List Int)} {u : List Int} {c : Nat} {D D' : List (List Int)} {gn cn gl cl : Nat} (h : L6 S B w0 w i M u c D gn cn gl cl)
    (hi : i ≤ M.length) (hB : B ≤ w.heap.size) (hp : D'.Perm D)
    (ho : OwnK w' 68 3 gn cn (M.length + D.length) (fun c f => if c < M.length then ndF S (M ++ D) i c f else (encN S (D'.getD (c - M.length) []))[f]!))
    (hbel : ∀ B, B ≤ w.heap.size → B ≤ gn → Below B w w') (hblk : ∀ k, k < w.heap.size → k ≠ gn → w'.heap[k]? = w.heap[k]?) : L7 S B w0 w' i M D' 0 gn cn gl cl := by
  have hl : (M ++ D').length = (M ++ D).length := by rw [List.length_append, List.length_append, hp.length_eq]
  refine ⟨own_sorted hi hp.length_eq ho, ?_, ?_, h.bel.trans (hbel B hB h.bn), h.bn, h.bl, h.n1, h.n2, h.n3⟩
  · rw [List.take_zero, List.append_nil]
    exact h.lay.of_block (hblk _ h.lay.lt (Ne.symm h.n3))
  · rw [hl]
    exact h.tt.of_block (hblk _ h.tt.lt (Ne.symm h.n1))

theorem L6.same {S : List (List Int)} {B : Nat} {w0 w : World} {i : Nat} {M : List (List Int)} {u : List Int} {c : Nat} {D : List (List Int)} {gn cn gl cl : Nat} (h : L6 S B w0 w i M u c D gn cn gl cl) : L7 S B w0 w i M D 0 gn cn gl cl := by
  refine ⟨h.nod, ?_, h.tt, h.bel, h.bn, h.bl, h.n1, h.n2, h.n3⟩
  rw [List.take_zero, List.append_nil]
  exact h.lay

theorem L7.push {S : List (List Int)} {B : Nat} {w0 w : World} {i : Nat} {M D : List (List Int)} {j gn cn gl cl : Nat} (h : L7 S B w0 w i M D j gn cn gl cl) (hB : B ≤ w.heap.size) (hj : j < D.length)
    {w8 : World} {g2 cp2 n cap : Nat} {cs : Array Value} {t L : Nat} (hL : (M ++ D.take j).length = L) {c : Nat} (hc : S.idxOf (D.getD j []) = c)
    (hown : w8.ownsRow B 21 1 (.slice (some ⟨g2, 0, none⟩) (L + 1) cp2) (L + 1) (Mem.flatK 1 (ldF S (M ++ D.take j)) L ++ [.int .i32 (c : Nat)]))
    (hgrow : (w.alloc (.cells cs t)).grownBy w8 (Value.slice (some ⟨gl, 0, none⟩) n cap).ownBlock) (hat : (Value.slice (some ⟨gl, 0, none⟩) n cap).ownBlock = some g2 ∨ g2 = w.heap.size + 1) :
    L7 S B w0 w8 i M D (j + 1) gn cn g2 cp2 := by
  subst hL
  have hg2 : g2 = gl ∨ g2 = w.heap.size + 1 := by
    rcases hat with e | e
    · left; simp [Value.ownBlock] at e; omega
    · exact .inr e
  have htl := h.tt.lt
  have hll := h.lay.lt
  have hnl := h.nod.lt
  have far : ∀ k, k < w.heap.size → k ≠ gl → w8.heap[k]? = w.heap[k]? := fun k hk hne => by
    have h1 : w8.heap[k]? = (w.alloc (.cells cs t)).heap[k]? := hgrow.block k (by simp; omega) (by simp [Value.ownBlock]; omega)
    rw [h1]
    exact Below.heap_alloc w _ k hk
  obtain ⟨hp, hb2⟩ := own_laid_pushed hc hown
  have e : M ++ D.take (j + 1) = M ++ D.take j ++ [D.getD j []] := by
    rw [List.append_assoc, List.take_succ_eq_append_getElem hj, ← getD_eq hj]
  have hsz : w.heap.size ≤ (w.alloc (.cells cs t)).heap.size := by simp
  refine ⟨h.nod.of_block (far _ hnl h.n3), by rw [e]; exact hp, h.tt.of_block (far _ htl (Ne.symm h.n2)), (h.bel.alloc hB _).grown hgrow (by omega) (own_ge h.bl), h.bn, hb2, h.n1, ?_, ?_⟩
  · rcases hg2 with e | e
    · rw [e]; exact h.n2
    · omega
  · rcases hg2 with e | e
    · rw [e]; exact h.n3
    · omega

theorem L7.done {S : List (List Int)} {B : Nat} {w0 w : World} {i : Nat} {M D : List (List Int)} {gn cn gl cl : Nat} (h : L7 S B w0 w i M D D.length gn cn gl cl) (hB : B ≤ w.heap.size) (hbf : BF S (M ++ D) (i + 1)) {a b : Nat} (hi : i < M.length)
    (ha : a = fst S (M ++ D) i) (hb : b = cnt S ((M ++ D).getD i [])) {w' : World} (hw : w' = (w.setCell ⟨gn, i * 3 + 1, none⟩ (.int .i32 a)).setCell ⟨gn, i * 3 + 2, none⟩ (.int .i32 b)) :
    L5 S B w0 w' (i + 1) (M ++ D) gn cn gl cl := by
  have hlay := h.lay
  rw [List.take_length] at hlay
  subst hw
  refine ⟨hbf, own_laid_out (by rw [List.length_append]; omega) ha hb h.nod, (hlay.setOther (Ne.symm h.n3) _).setOther (Ne.symm h.n3) _, (h.tt.setOther (Ne.symm h.n1) _).setOther (Ne.symm h.n1) _, (h.bel.setCell h.bn _).setCell h.bn _, h.bn, h.bl, h.n1, h.n2, h.n3⟩

theorem L5.drew {S : List (List Int)} {B : Nat} {w0 w' : World} {i : Nat} {M : List (List Int)} {gn cn gl cl : Nat} (h : L5 S B w0 w' i M gn cn gl cl) : L5 S B w0 w'.drew i M gn cn gl cl :=
  ⟨h.bf, h.nod, h.lay, h.tt, h.bel.drew, h.bn, h.bl, h.n1, h.n2, h.n3⟩

/-- A round of the loop that lays the nodes out. -/
theorem L7.next {S : List (List Int)} {B : Nat} {w0 w : World} {i : Nat} {M D : List (List Int)} {gn cn gl cl : Nat} (h : L7 S B w0 w i M D D.length gn cn gl cl) (hB : B ≤ w.heap.size) (hT : Tr S) (hbf : BF S M i) (hi : i < M.length)
    (hp : D.Perm (S.filter (isKid (M.getD i [])))) (hasc : ∀ q, q + 1 < D.length → lastC (D.getD q []) < lastC (D.getD (q + 1) [])) :
    L5 S B w0 ((w.setCell ⟨gn, i * 3 + 1, none⟩ (.int .i32 (M.length : Nat))).setCell ⟨gn, i * 3 + 2, none⟩ (.int .i32 (D.length : Nat))).drew (i + 1) (M ++ D) gn cn gl cl :=
  (h.done hB (hbf.step hi hT.nodup hp hasc) hi (by rw [fst_append S M D i (by omega)]; exact hbf.len) (by rw [getD_append_left' hi]; exact hp.length_eq) rfl).drew

/-- What newTrie leaves: the nodes of a trie of T, in memory of its own. -/
def Made (T : List (List Int)) (w : World) (e : Ending) (w' : World) : Prop :=
  ∃ (M : List (List Int)) (gn cn : Nat), e = .returned (.agg #[.slice (some ⟨gn, 0, none⟩) M.length cn]) ∧ BF (bldTo T T.length) M M.length ∧ OwnK w' 68 3 gn cn M.length (ndF (bldTo T T.length) M M.length) ∧ w.heap.size ≤ gn ∧ Below w.heap.size w w'

set_option maxHeartbeats 2000000 in
set_option maxRecDepth 100000 in
theorem newTrie_any (ta : Option Addr) (cap : Nat) (T : List (List Int)) (w : World) (hT : T.length ≤ 1048576) (hlen : lenTo T T.length ≤ 1048576)
    (hc : T = [] ∨ ∃ b off, ta = some ⟨b, off, none⟩ ∧ ∀ j, j < T.length → ∃ u, w.cell? ⟨b, off + j, none⟩ = some u ∧ RunesAt w u (tx T j)) :
    Calls Try.prog 26 #[.slice ta T.length cap] w fun e w' => Made T w e w' := by
  have HC : Hid (T = [] ∨ ∃ b off, ta = some ⟨b, off, none⟩ ∧ ∀ j, j < T.length → ∃ u, w.cell? ⟨b, off + j, none⟩ = some u ∧ RunesAt w u (tx T j)) := hc
  clear hc
  go_enter Try.func26, Try.ntmps26
  go_wp2
  have hbel1 : Below w.heap.size w (w.alloc (.cells #[.slice none 0 0] 65)) := (Below.refl _ _).alloc (Nat.le_refl _) _
  have hres1 : (w.alloc (.cells #[.slice none 0 0] 65)).rowIs w.heap.size 65 1 (fun _ => .slice none 0 0) :=
    World.rowIs_alloc w #[.slice none 0 0] 65 (fun _ => .slice none 0 0) (fun i hi => by
      have h0 : i = 0 := by simpa using hi
      subst h0; rfl)
  have hsz1 : (w.alloc (.cells #[.slice none 0 0] 65)).heap.size = w.heap.size + 1 := by simp
  generalize (w.alloc (.cells #[.slice none 0 0] 65)) = w1 at hbel1 hres1 hsz1 ⊢
  have HR1 : Hid (w1.rowIs w.heap.size 65 1 (fun _ => .slice none 0 0)) := hres1
  have HC1 : Hid (T = [] ∨ ∃ b off, ta = some ⟨b, off, none⟩ ∧ ∀ j, j < T.length → ∃ u, w1.cell? ⟨b, off + j, none⟩ = some u ∧ RunesAt w1 u (tx T j)) := by
    rcases HC.out with h0 | ⟨b, off, ha, hcs⟩
    · exact .inl h0
    · refine .inr ⟨b, off, ha, fun j hj => ?_⟩
      obtain ⟨u, h1, h2⟩ := hcs j hj
      exact ⟨u, by rw [hbel1.cell (old_of h1)]; exact h1, h2.below hbel1⟩
  have HZ1 : Hid (w1.heap.size = w.heap.size + 1) := hsz1
  clear HC hres1 hsz1
  go_loop [3, 23] (fun sz i => ∃ k : Nat, k ≤ T.length ∧ i = .int .i64 k ∧ sz = .int .i64 (1 + lenTo T k)) (fun _ i => T.length - (intOf i).toNat)
  case atStart => exact ⟨0, Nat.zero_le _, rfl, rfl⟩
  case round =>
    obtain ⟨k, hk, rfl, rfl⟩ := hrel
    by_cases hlt : k < T.length
    · obtain ⟨b, off, rfl, hcs⟩ : ∃ b off, ta = some ⟨b, off, none⟩ ∧ ∀ j, j < T.length → ∃ u, w1.cell? ⟨b, off + j, none⟩ = some u ∧ RunesAt w1 u (tx T j) := by
        rcases HC1.out with h0 | h0
        · rw [h0] at hlt; exact absurd hlt (by simp)
        · exact h0
      obtain ⟨u, hcell, a, cp, rfl, _⟩ := hcs k hlt
      clear hcs
      have hle : lenTo T (k + 1) ≤ lenTo T T.length := lenTo_mono T hlt
      have hls : lenTo T (k + 1) = lenTo T k + (tx T k).length := rfl
      have HL : Hid (lenTo T (k + 1) = lenTo T k + (tx T k).length) := hls
      have hb1 : lenTo T k + (tx T k).length ≤ 1048576 := by omega
      clear hls
      go_wp2
      refine ⟨⟨k + 1, by omega, by go_num, ?_⟩, by simp [intOf]; omega⟩
      rw [HL.out]; go_num
    · obtain rfl : k = T.length := by omega
      obtain ⟨i0, hi, hz0, hz1, hz2⟩ := info_parts info78
      have hmk : ∀ w : World, (Instr.makeSlice 76 (.int .i64 1) (.int .i64 (1 + lenTo T T.length))).run Try.prog w = .ok (.slice (some ⟨w.heap.size, 0, none⟩) 1 (1 + lenTo T T.length)) (w.alloc (.cells (madeCells #[.int .i32 0, .int .i32 0, .int .i32 0] ((1 + lenTo T T.length) * 3)) 78)) := fun w => by
        have h := run_make (P := Try.prog) w 76 78 i0 _ Try.underlying76 hi hz0 .i64 .i64 1 (1 + lenTo T T.length : Nat) (by omega) (by omega) (by rw [hz2]; omega) (by omega)
        rw [hz1] at h
        rw [show ((1 + lenTo T T.length : Nat) : Int) = 1 + lenTo T T.length from by omega] at h
        rw [show (1 + (lenTo T T.length : Int)).toNat = 1 + lenTo T T.length from by omega] at h
        exact h
      clear hi hz0 hz1 hz2
      go_wp2
      have hown0 := own_first w1 (1 + lenTo T T.length) (by omega) (by unfold maxLen; omega)
      have hbel2 : Below w1.heap.size w1 (w1.alloc (.cells (madeCells #[.int .i32 0, .int .i32 0, .int .i32 0] ((1 + lenTo T T.length) * 3)) 78)) := (Below.refl _ _).alloc (Nat.le_refl _) _
      generalize w1.alloc (.cells (madeCells #[.int .i32 0, .int .i32 0, .int .i32 0] ((1 + lenTo T T.length) * 3)) 78) = w2 at hown0 hbel2 ⊢
      have HO0 : Hid (OwnK w2 78 3 w1.heap.size (1 + lenTo T T.length) ([[]] : List (List Int)).length (chF [[]])) := hown0
      clear hown0 hmk
      go_loopw [6, 36] (fun v i wr => ∃ k g cp : Nat, k ≤ T.length ∧ i = .int .i64 k ∧ v = .slice (some ⟨g, 0, none⟩) (bldTo T k).length cp ∧ w1.heap.size ≤ g ∧ OwnK wr 78 3 g cp (bldTo T k).length (chF (bldTo T k)) ∧ Below w1.heap.size w1 wr)
        (fun _ i _ => T.length - (intOf i).toNat)
      case atStart => exact ⟨0, w1.heap.size, 1 + lenTo T T.length, Nat.zero_le _, rfl, rfl, Nat.le_refl _, HO0.out, hbel2⟩
      case round =>
        obtain ⟨k, g, cp, hk, rfl, rfl, hg, hown, hbel⟩ := hrel
        clear HO0 hbel2
        by_cases hlt : k < T.length
        · obtain ⟨b, off, rfl, hcs⟩ : ∃ b off, ta = some ⟨b, off, none⟩ ∧ ∀ j, j < T.length → ∃ u, w1.cell? ⟨b, off + j, none⟩ = some u ∧ RunesAt w1 u (tx T j) := by
            rcases HC1.out with h0 | h0
            · rw [h0] at hlt; exact absurd hlt (by simp)
            · exact h0
          obtain ⟨u, hcell1, a, tcap, rfl, htx⟩ := hcs k hlt
          clear hcs
          have hcell : wr.cell? ⟨b, off + k, none⟩ = some (.slice a (tx T k).length tcap) := by rw [hbel.cell (old_of hcell1)]; exact hcell1
          clear hcell1
          have hle : lenTo T (k + 1) ≤ lenTo T T.length := lenTo_mono T hlt
          have hb1 : lenTo T k + (tx T k).length ≤ 1048576 := by
            have : lenTo T (k + 1) = lenTo T k + (tx T k).length := rfl
            omega
          have hSl : (bldTo T k).length ≤ 1 + lenTo T k := bldTo_len T k
          have HNEXT : Hid (bldTo T (k + 1) = insTo (bldTo T k) (tx T k) (tx T k).length) := rfl
          have HTR : Hid (Tr (bldTo T k)) := bldTo_tr T k
          generalize bldTo T k = S at *
          generalize tx T k = t at *
          have HTX : Hid (t = [] ∨ ∃ b off, a = some ⟨b, off, none⟩ ∧ ∀ j, j < t.length → w1.cell? ⟨b, off + j, none⟩ = some (.int .i32 (rn t j))) := htx
          have HO : Hid (OwnK wr 78 3 g cp S.length (chF S)) := hown
          clear htx hown
          go_wp2
          obtain ⟨w3, hw3⟩ : ∃ w3 : World, w3 = wr := ⟨wr, rfl⟩
          subst hw3
          go_loopw [6, 9, 42] (fun v n i wr => ∃ j g cp x : Nat, j ≤ t.length ∧ i = .int .i64 j ∧ v = .slice (some ⟨g, 0, none⟩) (insTo S t j).length cp ∧ n = .int .i32 x ∧ x < (insTo S t j).length ∧ (insTo S t j).getD x [] = t.take j ∧
              w1.heap.size ≤ g ∧ OwnK wr 78 3 g cp (insTo S t j).length (chF (insTo S t j)) ∧ Below w1.heap.size w1 wr)
            (fun _ _ i _ => t.length - (intOf i).toNat)
          case atStart =>
            exact ⟨0, g, cp, 0, Nat.zero_le _, rfl, rfl, rfl, HTR.out.pos, by rw [List.take_zero]; exact HTR.out.head, hg, HO.out, hbel⟩
          case round =>
            obtain ⟨j, g', cp', x, hj, rfl, rfl, rfl, hx, hlab, hg', hown, hbel'⟩ := hrel
            clear HO hbel hcell
            by_cases hjlt : j < t.length
            · rcases HTX.out with h0 | ⟨b', off', rfl, hcs⟩
              · subst h0; exact absurd hjlt (by simp)
              · have hcell : wr.cell? ⟨b', off' + j, none⟩ = some (.int .i32 (rn t j)) := by
                  rw [hbel'.cell (old_of (hcs j hjlt))]; exact hcs j hjlt
                have hIl := (insTo_len S t j).1
                obtain ⟨htr, hmem⟩ := insTo_tr HTR.out t j hj
                have HNX : Hid (insTo S t (j + 1) = if t.take (j + 1) ∈ insTo S t j then insTo S t j else insTo S t j ++ [t.take (j + 1)]) := rfl
                have htk : t.take (j + 1) = t.take j ++ [rn t j] := take_snoc_getD hjlt
                rw [htk, ← hlab] at HNX
                have HTR' : Hid (Tr (insTo S t j)) := htr
                have HLAB : Hid (t.take (j + 1) = (insTo S t j).getD x [] ++ [rn t j]) := by rw [hlab]; exact htk
                clear hmem htk hlab htr hcs HTX
                generalize insTo S t j = S1 at *
                have HO : Hid (OwnK wr 78 3 g' cp' S1.length (chF S1)) := hown
                have hfc : wr.cell? ⟨g', x * 3 + 1, none⟩ = some (chF S1 x 1) := hown.cell hx (by decide)
                have hfcv : chF S1 x 1 = .int .i32 (fc S1 x) := rfl
                rw [hfcv] at hfc
                clear hown hfcv
                go_wp2
                go_quiet (fail)
                go_wp2
                obtain ⟨w4, hw4⟩ : ∃ w4 : World, w4 = wr := ⟨wr, rfl⟩
                subst hw4
                clear hfc hcell
                go_loopw [12, 13] (fun lv nv w5 => ∃ last next q : Nat, lv = .int .i32 last ∧ nv = .int .i32 next ∧ Seek S1 x (rn t j) last next ∧ w5 = w4.drewN q)
                  (fun lv _ _ => S1.length - (intOf lv).toNat)
                case atStart => exact ⟨0, fc S1 x, nq, rfl, rfl, Seek.start S1 x (rn t j), rfl⟩
                case round =>
                  obtain ⟨last, next, q, rfl, rfl, hseek, rfl⟩ := hrel
                  by_cases hn0 : next = 0
                  · subst hn0
                    have HNO : Hid (S1.getD x [] ++ [rn t j] ∉ S1) := hseek.none HTR'.out
                    have HSEEK : Hid (Seek S1 x (rn t j) last 0) := hseek
                    have hS1l : S1.length ≤ 2097153 := by omega
                    have e1 : Hid (insTo S t (j + 1) = S1 ++ [S1.getD x [] ++ [rn t j]]) := by
                      unfold Hid; rw [HNX.out, if_neg HNO.out]
                    clear HNX
                    obtain ⟨i1, hi, hz0, hz1, hz2⟩ := info_parts info78
                    by_cases hl0 : last = 0
                    · subst hl0
                      clear hseek
                      go_wp2_with (at_builtin; refine wpList_append_lies _ rfl _ _ 76 rfl w1.heap.size 78 i1 _ 3 12 Try.underlying76 hi hz0 hz1 hz2 rfl (by decide) _ S1.length (Mem.flatK 3 (chF S1) S1.length) rfl (((HO.out.drewN q).alloc _).owns (by decide) hg') ⟨w4.heap.size, 0, none⟩ 1 1 [.int .i32 (rn t j), .int .i32 0, .int .i32 0] rfl rfl ?c1 ?c2 (by decide) ?c3 ?c4 ?c5 (w4.heap.size + 1) ?c6 ?_)
                      case c1 => exact World.news_of_block (Go.Deep.blk_alloc_new (w4.drewN q) _)
                      case c2 => intro u hu; simp at hu; rcases hu with rfl | rfl <;> rfl
                      case c3 => unfold maxLen; omega
                      case c4 => omega
                      case c5 => have := hbel'.size; simp; omega
                      case c6 => simp
                      intro g2 cp2 w5 hown2 hgrow hat hglt
                      have hbel5 : Below w1.heap.size w1 w5 := ((hbel'.trans (dr_below _ _ q)).alloc hbel'.size _).grown hgrow (by have := hbel'.size; simp; omega) (own_ge hg')
                      obtain ⟨hpush, hg2⟩ := own_pushed hown2
                      have HP : Hid (OwnK w5 78 3 g2 cp2 (S1.length + 1) (chG S1 (rn t j))) := hpush
                      clear hi hz0 hz1 hz2 hown2 hgrow hat hglt hpush
                      have hst : w5.cell? ⟨g2, x * 3 + 1, none⟩ = some (chG S1 (rn t j) x 1) := HP.out.cell (by omega) (by decide)
                      have hfz : w5.frozen? ⟨g2, x * 3 + 1, none⟩ = false := HP.out.frozen _
                      generalize chG S1 (rn t j) x 1 = old at hst
                      go_wp2
                      have HF := own_first_child HTR'.out hx HSEEK.out HP.out
                      rw [← e1.out] at HF
                      refine ⟨⟨j + 1, g2, cp2, S1.length, by omega, by go_num, by rw [e1.out]; simp, rfl, by rw [e1.out]; simp, by rw [e1.out, getD_snoc, HLAB.out], hg2, HF, hbel5.setCell (by exact hg2) _⟩, by simp [intOf]; omega⟩
                    · have hll : last < S1.length := by
                        rcases hseek.lst with e | e
                        · exact absurd e hl0
                        · exact e.1
                      have hlb : ((last : Int) == 0) = false := by simp; omega
                      clear hseek
                      go_wp2_with (at_builtin; refine wpList_append_lies _ rfl _ _ 76 rfl w1.heap.size 78 i1 _ 3 12 Try.underlying76 hi hz0 hz1 hz2 rfl (by decide) _ S1.length (Mem.flatK 3 (chF S1) S1.length) rfl (((HO.out.drewN q).alloc _).owns (by decide) hg') ⟨w4.heap.size, 0, none⟩ 1 1 [.int .i32 (rn t j), .int .i32 0, .int .i32 0] rfl rfl ?c1 ?c2 (by decide) ?c3 ?c4 ?c5 (w4.heap.size + 1) ?c6 ?_)
                      case c1 => exact World.news_of_block (Go.Deep.blk_alloc_new (w4.drewN q) _)
                      case c2 => intro u hu; simp at hu; rcases hu with rfl | rfl <;> rfl
                      case c3 => unfold maxLen; omega
                      case c4 => omega
                      case c5 => have := hbel'.size; simp; omega
                      case c6 => simp
                      intro g2 cp2 w5 hown2 hgrow hat hglt
                      have hbel5 : Below w1.heap.size w1 w5 := ((hbel'.trans (dr_below _ _ q)).alloc hbel'.size _).grown hgrow (by have := hbel'.size; simp; omega) (own_ge hg')
                      obtain ⟨hpush, hg2⟩ := own_pushed hown2
                      have HP : Hid (OwnK w5 78 3 g2 cp2 (S1.length + 1) (chG S1 (rn t j))) := hpush
                      clear hi hz0 hz1 hz2 hown2 hgrow hat hglt hpush
                      have hst : w5.cell? ⟨g2, last * 3 + 2, none⟩ = some (chG S1 (rn t j) last 2) := HP.out.cell (by omega) (by decide)
                      have hfz : w5.frozen? ⟨g2, last * 3 + 2, none⟩ = false := HP.out.frozen _
                      generalize chG S1 (rn t j) last 2 = old at hst
                      go_wp2
                      have HF := own_next_sibling HTR'.out hx hl0 HSEEK.out HP.out
                      rw [← e1.out] at HF
                      refine ⟨⟨j + 1, g2, cp2, S1.length, by omega, by go_num, by rw [e1.out]; simp, rfl, by rw [e1.out]; simp, by rw [e1.out, getD_snoc, HLAB.out], hg2, HF, hbel5.setCell (by exact hg2) _⟩, by simp [intOf]; omega⟩
                  · obtain ⟨hl1, hl2, hl3⟩ := hseek.lt hn0
                    have hc0 : w4.cell? ⟨g', next * 3, none⟩ = some (.int .i32 (lastC (S1.getD next []))) := HO.out.cell (i := 0) hl2 (by decide)
                    by_cases hr : lastC (S1.getD next []) = rn t j
                    · have HF : Hid (S1.getD next [] = S1.getD x [] ++ [rn t j]) := hseek.found hn0 hr
                      have hb0 : ((next : Int) != 0) = true := by simp; omega
                      have hb1 : (lastC (S1.getD next []) != rn t j) = false := by simpa using hr
                      have hb2 : ((next : Int) == 0) = false := by simp; omega
                      generalize lastC (S1.getD next []) = ch at *
                      clear hseek hr hl3
                      go_wp2
                      have e1 : insTo S t (j + 1) = S1 := by rw [HNX.out, if_pos (by rw [← HF.out]; exact getD_mem hl2)]
                      refine ⟨⟨j + 1, g', cp', next, by omega, by go_num, by rw [e1], rfl, by rw [e1]; exact hl2, by rw [e1, HF.out, HLAB.out], hg', by rw [e1]; exact HO.out.drewN q, hbel'.trans (dr_below _ _ _)⟩, by simp [intOf]; omega⟩
                    · have hc2 : w4.cell? ⟨g', next * 3 + 2, none⟩ = some (.int .i32 (ns S1 next)) := HO.out.cell (i := 2) hl2 (by decide)
                      have hstep := hseek.step HTR'.out hn0 hr
                      have HSTEP : Hid (Seek S1 x (rn t j) next (ns S1 next)) := hstep
                      have hb0 : ((next : Int) != 0) = true := by simp; omega
                      have hb1 : (lastC (S1.getD next []) != rn t j) = true := by simpa using hr
                      generalize lastC (S1.getD next []) = ch at *
                      clear hseek hstep hr hl3
                      go_wp2
                      go_quiet (fail)
                      go_wp2
                      exact ⟨⟨next, ns S1 next, q + nq, rfl, rfl, HSTEP.out, World.drewN_drewN ..⟩, by simp [intOf]; omega⟩
            · obtain rfl : j = t.length := by omega
              go_wp2
              refine ⟨⟨k + 1, g', cp', by omega, by go_num, by rw [HNEXT.out], hg', by rw [HNEXT.out]; exact hown, hbel'⟩, by simp [intOf]; omega⟩
        · obtain rfl : k = T.length := by omega
          have hSl := bldTo_len T T.length
          have HTR : Hid (Tr (bldTo T T.length)) := bldTo_tr T T.length
          generalize hS0 : bldTo T T.length = S at *
          have HS0 : Hid (bldTo T T.length = S) := hS0
          clear hS0
          have HO : Hid (OwnK wr 78 3 g cp S.length (chF S)) := hown
          have hglt := hown.lt
          have hSpos := HTR.out.pos
          clear hown
          obtain ⟨i1, hi, hz0, hz1, hz2⟩ := info_parts info68
          have hmk : ∀ w : World, (Instr.makeSlice 63 (.int .i64 1) (.int .i64 S.length)).run Try.prog w = .ok (.slice (some ⟨w.heap.size, 0, none⟩) 1 S.length) (w.alloc (.cells (madeCells #[.int .i32 0, .int .i32 0, .int .i32 0] (S.length * 3)) 68)) := fun w => by
            have h := run_make (P := Try.prog) w 63 68 i1 _ Try.underlying63 hi hz0 .i64 .i64 1 (S.length : Nat) (by omega) (by omega) (by rw [hz2]; omega) (by omega)
            rw [hz1] at h
            exact h
          clear hi hz0 hz1 hz2
          go_wp2
          clear hmk
          have hL0 := L5.start HTR.out wr (by unfold maxLen; omega)
          generalize ((wr.alloc (.cells (madeCells #[.int .i32 0, .int .i32 0, .int .i32 0] (S.length * 3)) 68)).alloc (.cells #[.slice (some ⟨wr.heap.size, 0, none⟩) 1 S.length] 65)).alloc (.cells #[.int .i32 0] 21) = w6 at hL0 ⊢
          obtain ⟨w5, hw5⟩ : ∃ w5 : World, w5 = wr := ⟨wr, rfl⟩
          subst hw5
          have HL0 : Hid (L5 S w5.heap.size w5 w6 0 [[]] w5.heap.size S.length (w5.heap.size + 1 + 1) 1) := hL0
          clear hL0
          go_loopw [15, 16] (fun lv iv wr => ∃ (i : Nat) (M : List (List Int)) (gn cn gl cl : Nat), iv = .int .i64 i ∧ lv = .slice (some ⟨gl, 0, none⟩) M.length cl ∧ L5 S w5.heap.size w5 wr i M gn cn gl cl)
            (fun _ iv _ => S.length - (intOf iv).toNat)
          case atStart => exact ⟨0, [[]], _, _, _, _, rfl, rfl, HL0.out⟩
          case round =>
            obtain ⟨i, M, gn, cn, gl, cl, rfl, rfl, hL⟩ := hrel
            clear HL0
            have HL : Hid (L5 S w5.heap.size w5 wr i M gn cn gl cl) := hL
            have hML := hL.bf.le_S
            have hiM := hL.bf.le
            by_cases hi : i < M.length
            · have hmem : M.getD i [] ∈ S := hL.bf.sub _ (getD_mem hi)
              have hixl : S.idxOf (M.getD i []) < S.length := ix_lt hmem
              have hcl : wr.cell? ⟨gl, i, none⟩ = some (.int .i32 (S.idxOf (M.getD i []) : Nat)) := by
                have := hL.lay.cell (c := i) (i := 0) hi (by decide)
                simpa [ldF] using this
              have hcc : wr.cell? ⟨g, S.idxOf (M.getD i []) * 3 + 1, none⟩ = some (.int .i32 (nx S (M.getD i []) 1 : Nat)) := by
                have h1 := HO.out.cell (c := S.idxOf (M.getD i [])) (i := 1) hixl (by decide)
                have h2 : chF S (S.idxOf (M.getD i [])) 1 = .int .i32 (nx S (M.getD i []) 1 : Nat) := by
                  show Value.int .i32 (fc S _ : Nat) = _
                  rw [fc_ix hmem]
                rw [h2] at h1
                rw [hL.bel.cell (by exact hglt)]
                exact h1
              have htt : wr.cell? ⟨w5.heap.size + 1, 0, none⟩ = some (.slice (some ⟨gn, 0, none⟩) M.length cn) := hL.tt.cell (by decide)
              clear hL
              generalize hix : S.idxOf (M.getD i []) = ix at *
              have HIX : Hid (S.idxOf (M.getD i []) = ix) := hix
              clear hix
              generalize hu : M.getD i [] = u at *
              have HU : Hid (M.getD i [] = u) := hu
              clear hu
              go_wp2
              have HL6 : Hid (L6 S w5.heap.size w5 wr i M u (nx S u 1) [] gn cn gl cl) := HL.out.kids HTR.out u
              obtain ⟨w7, hw7⟩ : ∃ w7 : World, w7 = wr := ⟨wr, rfl⟩
              subst hw7
              clear hcl hcc htt
              go_loopw [18] (fun cv wr => ∃ (c : Nat) (D : List (List Int)) (gn cn : Nat), cv = .int .i32 c ∧ L6 S w5.heap.size w5 wr i M u c D gn cn gl cl)
                (fun cv _ => muC S.length cv)
              case atStart => exact ⟨_, [], gn, cn, rfl, HL6.out⟩
              case round =>
                obtain ⟨c, D, gn', cn', rfl, hL6⟩ := hrel
                clear HL6
                have HL6 : Hid (L6 S w5.heap.size w5 wr i M u c D gn' cn' gl cl) := hL6
                by_cases hc0 : c = 0
                · subst hc0
                  have hDk : D = S.filter (isKid u) := hL6.kid.done
                  have hDl := hL6.kid.len
                  have hMDl : M.length + D.length ≤ 4194304 := by omega
                  have hMcn : M.length + D.length ≤ cn' := by have := hL6.nod.le; rw [List.length_append] at this; exact this
                  have htt : wr.cell? ⟨w5.heap.size + 1, 0, none⟩ = some (.slice (some ⟨gn', 0, none⟩) (M.length + D.length) cn') := by
                    have := hL6.tt.cell (i := 0) (by decide)
                    rw [List.length_append] at this
                    exact this
                  have HDK : Hid (D = S.filter (isKid u)) := hDk
                  clear hDk
                  have hb1 : (0 : Int) ≤ (M.length : Int) := Int.natCast_nonneg _
                  by_cases hD0 : D = []
                  · subst hD0
                    have HL7 : Hid (L7 S w5.heap.size w5 wr i M [] ([] : List (List Int)).length gn' cn' gl cl) := HL6.out.same
                    have hs1 : wr.cell? ⟨gn', i * 3 + 1, none⟩ = some (ndF S (M ++ []) i i 1) := hL6.nod.cell (by rw [List.length_append]; omega) (by decide)
                    have hs2 : wr.cell? ⟨gn', i * 3 + 2, none⟩ = some (ndF S (M ++ []) i i 2) := hL6.nod.cell (by rw [List.length_append]; omega) (by decide)
                    have hf1 : wr.frozen? ⟨gn', i * 3 + 1, none⟩ = false := hL6.nod.frozen _
                    have hf2 : wr.frozen? ⟨gn', i * 3 + 2, none⟩ = false := hL6.nod.frozen _
                    generalize ndF S (M ++ []) i i 1 = old1 at hs1
                    generalize ndF S (M ++ []) i i 2 = old2 at hs2
                    have hiL1 : (0 : Int) ≤ (i : Int) := Int.natCast_nonneg _
                    have hiL : (i : Int) < (M.length : Int) := by omega
                    have hfin := HL7.out.next (by have := HL7.out.bel.size; omega) HTR.out HL.out.bf hi (by rw [HU.out, ← HDK.out]) (fun q hq => by simp at hq)
                    have HFIN := hid hfin
                    rw [List.length_nil, Nat.add_zero] at htt hMcn
                    clear hL6 hfin HL7 hDl hMDl
                    by_cases hcM : cn' = M.length
                    all_goals
                      go_wp2_with fail
                      refine (sort_none _ _ _).mono ?_
                      rintro e w10 ⟨rfl, rfl⟩
                      go_wp2_with fail
                      refine wp_loop_rounds 1 ?_
                      rw [rounds_succ]
                      go_wp2
                      go_region
                      go_wp2
                      exact ⟨⟨i + 1, M ++ [], gn', cn', gl, cl, by go_num, by rw [List.append_nil], HFIN.out⟩, by simp [intOf]; omega⟩
                  · have hDpos : 0 < D.length := by
                      cases D with
                      | nil => exact absurd rfl hD0
                      | cons a l => simp
                    have hcne : ¬ cn' = M.length := by omega
                    have hsort := sort_tail S gn' cn' (cn' - M.length) M.length D wr hD0 (by omega) (N := ndF S (M ++ D) i) (by rw [← List.length_append]; exact hL6.nod) (fun q f hq hf => ndF_new S M D i q f hiM hf)
                    have HSORT := hid hsort
                    clear hsort hL6
                    go_wp2_with fail
                    refine HSORT.out.mono ?_
                    rintro e w10 ⟨rfl, D', hperm, hord, hown', hbel', hblk'⟩
                    have HPERM : Hid (D'.Perm D) := hperm
                    have hDD : D'.length = D.length := hperm.length_eq
                    have HL7 : Hid (L7 S w5.heap.size w5 w10 i M D' 0 gn' cn' gl cl) := HL6.out.sorted hiM (by have := HL6.out.bel.size; omega) hperm hown' hbel' hblk'
                    have HASC : Hid (∀ q, q + 1 < D'.length → lastC (D'.getD q []) < lastC (D'.getD (q + 1) [])) := kids_asc HTR.out.nodup (hperm.trans (List.Perm.of_eq HDK.out)) hord
                    clear hperm hord hown' hbel' hblk' HSORT htt
                    go_wp2
                    go_loopw [15, 143] (fun lv jv wr => ∃ j gl cl : Nat, j ≤ D.length ∧ jv = .int .i64 j ∧ lv = .slice (some ⟨gl, 0, none⟩) (M ++ D'.take j).length cl ∧ L7 S w5.heap.size w5 wr i M D' j gn' cn' gl cl)
                      (fun _ jv _ => D.length - (intOf jv).toNat)
                    case atStart => exact ⟨0, gl, cl, Nat.zero_le _, rfl, by rw [List.take_zero, List.append_nil], HL7.out⟩
                    case round =>
                      obtain ⟨j, gl', cl', hj, rfl, rfl, hL7⟩ := hrel
                      clear HL7
                      have HL7 : Hid (L7 S w5.heap.size w5 wr i M D' j gn' cn' gl' cl') := hL7
                      by_cases hjlt : j < D.length
                      · have hcel : wr.cell? ⟨gn', M.length * 3 + j * 3 + 1, none⟩ = some (.int .i32 (S.idxOf (D'.getD j []) : Nat)) := by
                          have h := hL7.nod.cell (c := M.length + j) (i := 1) (by rw [List.length_append]; omega) (by decide)
                          rw [ndF_new S M D' i j 1 hiM (by decide)] at h
                          have e : (M.length + j) * 3 + 1 = M.length * 3 + j * 3 + 1 := by omega
                          rw [e] at h
                          exact h
                        have hown1 : (wr.alloc (.cells #[.int .i32 (S.idxOf (D'.getD j []) : Nat)] 21)).ownsRow w5.heap.size 21 1 (.slice (some ⟨gl', 0, none⟩) (M ++ D'.take j).length cl') (M ++ D'.take j).length (Mem.flatK 1 (ldF S (M ++ D'.take j)) (M ++ D'.take j).length) := (hL7.lay.alloc _).owns (by decide) hL7.bl
                        have hll : (M ++ D'.take j).length ≤ 4194304 := by rw [List.length_append, List.length_take]; omega
                        generalize hic : S.idxOf (D'.getD j []) = ic at *
                        have HIC : Hid (S.idxOf (D'.getD j []) = ic) := hic
                        generalize hLen : (M ++ D'.take j).length = L at *
                        have HLen : Hid ((M ++ D'.take j).length = L) := hLen
                        have HOWN := hid hown1
                        have hsz5 : w5.heap.size ≤ wr.heap.size := hL7.bel.size
                        clear hic hLen hown1 hL7
                        obtain ⟨i2, hi2, hz0, hz1, hz2⟩ := info_parts info21
                        go_wp2_with (at_builtin; refine wpList_append_lies _ rfl _ _ 24 rfl w5.heap.size 21 i2 _ 1 4 Try.underlying24 hi2 hz0 hz1 hz2 rfl (by decide) _ L _ rfl HOWN.out ⟨wr.heap.size, 0, none⟩ 1 1 [.int .i32 ic] rfl rfl ?c1 ?c2 (by decide) ?c3 ?c4 ?c5 (wr.heap.size + 1) ?c6 ?_)
                        case c1 => exact World.news_of_block (Go.Deep.blk_alloc_new wr _)
                        case c2 => intro v hv; simp at hv; subst hv; rfl
                        case c3 => unfold maxLen; omega
                        case c4 => omega
                        case c5 => simp; omega
                        case c6 => simp
                        intro g2 cp2 w8 hown2 hgrow hat hlt8
                        have HL8 : Hid (L7 S w5.heap.size w5 w8 i M D' (j + 1) gn' cn' g2 cp2) := HL7.out.push (by omega) (by omega) HLen.out HIC.out hown2 hgrow hat
                        clear hown2 hgrow hat hlt8 hi2 hz0 hz1 hz2 HOWN hcel
                        go_wp2
                        refine ⟨⟨j + 1, g2, cp2, by omega, by go_num, ?_, HL8.out⟩, by simp [intOf]; omega⟩
                        rw [List.take_succ_eq_append_getElem (by omega), ← List.append_assoc, List.length_append, HLen.out]
                        rfl
                      · obtain rfl : j = D.length := by omega
                        have htt : wr.cell? ⟨w5.heap.size + 1, 0, none⟩ = some (.slice (some ⟨gn', 0, none⟩) (M.length + D.length) cn') := by
                          have := hL7.tt.cell (i := 0) (by decide)
                          rw [List.length_append, hDD] at this
                          exact this
                        have hs1 : wr.cell? ⟨gn', i * 3 + 1, none⟩ = some (ndF S (M ++ D') i i 1) := hL7.nod.cell (by rw [List.length_append]; omega) (by decide)
                        have hs2 : wr.cell? ⟨gn', i * 3 + 2, none⟩ = some (ndF S (M ++ D') i i 2) := hL7.nod.cell (by rw [List.length_append]; omega) (by decide)
                        have hf1 : wr.frozen? ⟨gn', i * 3 + 1, none⟩ = false := hL7.nod.frozen _
                        have hf2 : wr.frozen? ⟨gn', i * 3 + 2, none⟩ = false := hL7.nod.frozen _
                        generalize ndF S (M ++ D') i i 1 = old1 at hs1
                        generalize ndF S (M ++ D') i i 2 = old2 at hs2
                        have hiL1 : (0 : Int) ≤ (i : Int) := Int.natCast_nonneg _
                        have hiL : (i : Int) < (M.length : Int) + (D.length : Int) := by omega
                        clear hL7
                        go_wp2
                        go_region
                        go_wp2
                        have HN := HL7.out
                        rw [← hDD] at HN
                        have hfin := HN.next (by have := HN.bel.size; omega) HTR.out HL.out.bf hi (by rw [HU.out, ← HDK.out]; exact HPERM.out) HASC.out
                        rw [hDD] at hfin
                        exact ⟨⟨i + 1, M ++ D', gn', cn', gl', cl', by go_num, by rw [← hDD, List.take_length], hfin⟩, by simp [intOf]; omega⟩
                · obtain ⟨hcS, hstep⟩ := hL6.kid.step hc0
                  have HST : Hid (KidSt S u (ns S c) (D ++ [S.getD c []])) := hstep
                  have hDl := hstep.len
                  have hMDl : (M ++ D).length ≤ 4194304 := by
                    rw [List.length_append] at *
                    simp at hDl
                    omega
                  have hcb : ((c : Int) != 0) = true := by simp; omega
                  have hch0 : wr.cell? ⟨g, c * 3, none⟩ = some (.int .i32 (lastC (S.getD c []))) := by
                    rw [hL6.bel.cell (by exact hglt)]; exact HO.out.cell (i := 0) hcS (by decide)
                  have hch2 : wr.cell? ⟨g, c * 3 + 2, none⟩ = some (.int .i32 (ns S c)) := by
                    rw [hL6.bel.cell (by exact hglt)]; exact HO.out.cell (i := 2) hcS (by decide)
                  have htt : wr.cell? ⟨w5.heap.size + 1, 0, none⟩ = some (.slice (some ⟨gn', 0, none⟩) (M ++ D).length cn') := hL6.tt.cell (by decide)
                  have hfz : wr.frozen? ⟨w5.heap.size + 1, 0, none⟩ = false := hL6.tt.frozen 0
                  have lg : g < wr.heap.size := by have := hL6.bel.size; omega
                  have lt5 : w5.heap.size + 1 < wr.heap.size := hL6.tt.lt
                  have ln : gn' < wr.heap.size := hL6.nod.lt
                  have hne1 : gn' ≠ w5.heap.size + 1 := hL6.n1
                  have hne2 : gn' ≠ g := by have := hL6.bn; omega
                  have hc1 : (0 : Int) ≤ (c : Int) := Int.natCast_nonneg _
                  have hc2 : (c : Int) < (S.length : Int) := by omega
                  obtain ⟨i2, hi2, hz0, hz1, hz2⟩ := info_parts info68
                  generalize hch : lastC (S.getD c []) = ch at *
                  have HCH : Hid (lastC (S.getD c []) = ch) := hch
                  have hown1 : (wr.alloc (.cells #[.int .i32 ch, .int .i32 c, .int .i32 0] 68)).drew.ownsRow w5.heap.size 68 3 (.slice (some ⟨gn', 0, none⟩) (M ++ D).length cn') (M ++ D).length (Mem.flatK 3 (ndF S (M ++ D) i) (M ++ D).length) := ((hL6.nod.alloc _).drew).owns (by decide) hL6.bn
                  have HOWN : Hid ((wr.alloc (.cells #[.int .i32 ch, .int .i32 c, .int .i32 0] 68)).drew.ownsRow w5.heap.size 68 3 (.slice (some ⟨gn', 0, none⟩) (M ++ D).length cn') (M ++ D).length (Mem.flatK 3 (ndF S (M ++ D) i) (M ++ D).length)) := hown1
                  clear hch hL6 hstep hown1
                  generalize hLen : (M ++ D).length = L at *
                  have HLen : Hid ((M ++ D).length = L) := hLen
                  clear hLen
                  go_wp2
                  go_region_law ((refine step_append_lies _ (by rfl) _ _ _ (by rfl) w5.heap.size 68 i2 _ 3 12 Try.underlying63 hi2 hz0 hz1 hz2 rfl (by decide) (.slice (some ⟨gn', 0, none⟩) L cn') L _ (by rfl) HOWN.out ⟨wr.heap.size, 0, none⟩ 1 1 [.int .i32 ch, .int .i32 c, .int .i32 0] (by rfl) (by rfl) (World.news_of_block (cs := #[.int .i32 ch, .int .i32 c, .int .i32 0]) (t := 68) (fr := (0, 0)) (Go.Deep.blk_alloc_new wr _)) (by simp [Value.oneCell']) (by decide) (by unfold maxLen; omega) (by omega) (by simp; omega) (wr.heap.size + 1) (by simp) ?_; intro g2 cp2 w8 hown2 hgrow hat hlt8; have h8c := far_cell (far_append hgrow lt5 (Ne.symm hne1)) htt; have h8f := far_frozen (far_append hgrow lt5 (Ne.symm hne1)) hfz))
                  all_goals
                    have h9 : (w8.setCell ⟨w5.heap.size + 1, 0, none⟩ (.slice (some ⟨g2, 0, none⟩) (L + 1) cp2)).cell? ⟨g, c * 3 + 2, none⟩ = some (.int .i32 (ns S c)) := far_cell ((Below.heap_setCell _ _ _ _ (by show g ≠ w5.heap.size + 1; omega)).trans (far_append hgrow lg (Ne.symm hne2))) hch2
                    have HL9 : Hid (L6 S w5.heap.size w5 (w8.setCell ⟨w5.heap.size + 1, 0, none⟩ (.slice (some ⟨g2, 0, none⟩) (L + 1) cp2)) i M u (ns S c) (D ++ [S.getD c []]) g2 cp2 gl cl) := HL6.out.push HTR.out hiM (by omega) hc0 HLen.out HCH.out hown2 hgrow hat
                    clear hown2 hgrow hat hlt8 h8c h8f hi2 hz0 hz1 hz2 HOWN hch0 hch2 htt hfz
                    generalize w8.setCell ⟨w5.heap.size + 1, 0, none⟩ (.slice (some ⟨g2, 0, none⟩) (L + 1) cp2) = w9 at *
                    go_wp2
                    refine ⟨⟨ns S c, D ++ [S.getD c []], g2, cp2, rfl, HL9.out⟩, ?_⟩
                    rw [muC_cast, muC_cast, if_neg hc0]
                    rcases ns_gt (S := S) hc0 with e | ⟨e1, e2⟩
                    · rw [if_pos e]; omega
                    · rw [if_neg (by omega)]; omega
            · obtain rfl : i = M.length := by omega
              have hrw : wr.rowIs w.heap.size 65 1 (fun _ => .slice none 0 0) := (HR1.out.of_block (hbel.block _ (by rw [HZ1.out]; omega))).of_block (hL.bel.block _ (by have := hbel.size; rw [HZ1.out] at this; omega))
              have hrc : wr.cell? ⟨w.heap.size, 0, none⟩ = some (.slice none 0 0) := hrw.cell (by decide)
              have hrf : wr.frozen? ⟨w.heap.size, 0, none⟩ = false := hrw.frozen 0
              have htt : wr.cell? ⟨w5.heap.size + 1, 0, none⟩ = some (.slice (some ⟨gn, 0, none⟩) M.length cn) := hL.tt.cell (by decide)
              clear hrw hL
              go_wp2
              have hsz := hbel.size
              have hz1 := HZ1.out
              have hgn : gn ≠ w.heap.size := by have := HL.out.bn; omega
              refine bodyPost_ret (v := .agg #[.slice (some ⟨gn, 0, none⟩) M.length cn]) (by simp [results, Try.results26, go_sem, hrc]) rfl ⟨M, gn, cn, rfl, ?_, ?_, ?_, ?_⟩
              · rw [HS0.out]; exact HL.out.bf
              · rw [HS0.out]; exact HL.out.nod.setOther hgn _
              · have := HL.out.bn; omega
              · exact ((hbel1.trans (hbel.mono (by omega))).trans (HL.out.bel.mono (by omega))).setCell (Nat.le_refl _) _

end Go.Proofs.Qxb6608903a.TrieW
