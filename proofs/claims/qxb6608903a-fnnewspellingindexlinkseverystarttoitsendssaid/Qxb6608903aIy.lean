/-
  newSpellingIndex (28): ahead of the walk.
-/
import Derived.Test.Qxb6608903aIm
import Derived.Test.Qxb6608903aTg
import Derived.Test.Qxb6608903aRv
import Derived.Test.Qxb6608903aUk
import Derived.Deep.CutBlock
import Derived.Deep.RegionWith
import Derived.Laws.IdiomStrings
namespace Go.Proofs.Qxb6608903a.Ix
open Go.RowKit Plain Mem Go.Sort Lk
open U hiding hid
open Cl hiding hid
open TrieW hiding hid
open TrieG hiding zzSize zzNode
set_option linter.unusedVariables false

theorem hid {p : Prop} (h : p) : Hid p := h

theorem info24 : (Try.prog.info? 24).map (fun i => (i.zero, i.size, i.bytes)) = some (some (.slice none 0 0), 1, 24) := by kernel_rfl
theorem info50 : (Try.prog.info? 50).map (fun i => (i.zero, i.size, i.bytes)) = some (some (.int .u64 0), 1, 8) := by kernel_rfl

theorem wrapN (n : Nat) (h : n ≤ 4611686018427387904) : IntKind.i64.wrap (n : Int) = (n : Int) := by
  rw [IntKind.wrap_i64]; omega

/-- '[]rune(s)' lays a block of the runes. -/
theorem conv_run (w : World) (s : ByteArray) (hs : s.size ≤ 1048576) : ∃ (cap : Nat) (arr : Array Value), (convert 9 24 (.string s)).run Try.prog w = .ok (.slice (some ⟨w.heap.size, 0, none⟩) (runes s).length cap) ((w.alloc (.cells arr 21)).drew) ∧ ∀ j, j < (runes s).length → arr[j]? = some (.int .i32 (rn (runes s) j)) := by
  have h := run_runes_of_string (P := Try.prog) w 9 24 21 s Try.underlying9 Try.underlying24 Try.underlying21 (by
    rw [runesFrom_runes]
    have := runes_len s
    simp; omega)
  rw [runesFrom_runes] at h
  have e : ((runes s).map fun r => Value.int .i32 r).toArray.size = (runes s).length := by simp
  rw [e] at h
  refine ⟨_, _, h, ?_⟩
  intro j hj
  rw [Array.getElem?_append_left (by simpa using hj)]
  simp [hj]
  unfold rn
  rw [List.getD_eq_getElem?_getD, List.getElem?_eq_getElem hj]
  rfl

/-- The spellings in memory: n of them, from the block's start on. -/
def SpAt (w : World) (b n : Nat) (str : Nat → ByteArray) (ch : Nat → Int) : Prop := ∀ j, j < n → w.cell? ⟨b, j * 2, none⟩ = some (.string (str j)) ∧ w.cell? ⟨b, j * 2 + 1, none⟩ = some (.int .i64 (ch j))

/-- The texts; the turned ones. -/
def tsT (str : Nat → ByteArray) (n : Nat) : List (List Int) := (List.range n).map fun j => runes (str j)
def tsV (str : Nat → ByteArray) (n : Nat) : List (List Int) := (List.range n).map fun j => (runes (str j)).reverse

theorem tsT_len (str : Nat → ByteArray) (n : Nat) : (tsT str n).length = n := by simp [tsT]
theorem tsV_len (str : Nat → ByteArray) (n : Nat) : (tsV str n).length = n := by simp [tsV]
theorem tsT_at (str : Nat → ByteArray) {n j : Nat} (h : j < n) : tx (tsT str n) j = runes (str j) := by
  unfold tx tsT; rw [List.getD_eq_getElem?_getD, List.getElem?_map, List.getElem?_range h]; rfl
theorem tsV_at (str : Nat → ByteArray) {n j : Nat} (h : j < n) : tx (tsV str n) j = (tx (tsT str n) j).reverse := by
  rw [tsT_at str h]
  unfold tx tsV; rw [List.getD_eq_getElem?_getD, List.getElem?_map, List.getElem?_range h]; rfl

theorem lenTo_rev_le (str : Nat → ByteArray) (n : Nat) : ∀ k, k ≤ n → lenTo (tsV str n) k = lenTo (tsT str n) k
  | 0, _ => rfl
  | k + 1, h => by
    show lenTo (tsV str n) k + (tx (tsV str n) k).length = lenTo (tsT str n) k + (tx (tsT str n) k).length
    rw [lenTo_rev_le str n k (by omega), tsV_at str (by omega), List.length_reverse]

theorem takeM {T M : List (List Int)} (hbf : BF (bldTo T T.length) M M.length) {j : Nat} (hj : j < T.length) (b : Nat) : (tx T j).take b ∈ M := by
  rw [hbf.all (bldTo_tr T T.length), bldTo_mem]
  exact .inr ⟨j, hj, List.take_prefix _ _⟩

theorem nodes_le {T M : List (List Int)} (hbf : BF (bldTo T T.length) M M.length) (h : lenTo T T.length ≤ 1048576) : M.length ≤ 1048577 := by
  have h1 := hbf.le_S
  have h2 := bldTo_len T T.length
  omega

/-- What stands when the tries are made: all of it lies below w3's end. -/
structure Fix (w w3 : World) (n : Nat) (T V M N : List (List Int)) (gn cn gn' cn' : Nat) (F G : Nat → Value) : Prop where
  hT : T.length = n
  hV : V.length = n
  bel : Below w.heap.size w w3
  sz : w.heap.size + 2 ≤ w3.heap.size
  rt : w3.rowIs w.heap.size 24 n F
  rr : w3.rowIs (w.heap.size + 1) 24 n G
  txt : ∀ j, j < n → RB w3 (w.heap.size + 2) (F j) (tx T j) ∧ RB w3 (w.heap.size + 2) (G j) (tx V j)
  bm : BF (bldTo T T.length) M M.length
  bn : BF (bldTo V V.length) N N.length
  nm : OwnK w3 68 3 gn cn M.length (ndF (bldTo T T.length) M M.length)
  nn : OwnK w3 68 3 gn' cn' N.length (ndF (bldTo V V.length) N N.length)
  gm : w.heap.size + 2 ≤ gn
  gm' : w.heap.size + 2 ≤ gn'

theorem Fix.make {w w1 w2 w3 : World} {n : Nat} {T V M N : List (List Int)} {gn cn gn' cn' : Nat} {F G : Nat → Value} (hT : T.length = n) (hV : V.length = n) (h : L1 w w1 n n T V F G)
    (hb2 : Below w1.heap.size w1 w2) (hb3 : Below w2.heap.size w2 w3) (bm : BF (bldTo T T.length) M M.length) (bn : BF (bldTo V V.length) N N.length)
    (nm : OwnK w2 68 3 gn cn M.length (ndF (bldTo T T.length) M M.length)) (nn : OwnK w3 68 3 gn' cn' N.length (ndF (bldTo V V.length) N N.length)) (hg : w1.heap.size ≤ gn) (hg' : w2.heap.size ≤ gn') : Fix w w3 n T V M N gn cn gn' cn' F G := by
  have h1 := h.rr.lt
  have h2 := hb2.size
  have h3 := hb3.size
  have hb : Below w1.heap.size w1 w3 := hb2.trans (hb3.mono h2)
  exact ⟨hT, hV, h.bel.trans (hb.mono (by omega)), by omega, h.rt.of_block (hb.block _ (by omega)), h.rr.of_block (hb.block _ (by omega)), fun j hj => ⟨(h.txt j hj).1.below hb, (h.txt j hj).2.below hb⟩, bm, bn, nm.of_block (hb3.block _ nm.lt), nn, by omega, by omega⟩

/-- The values of the box. -/
abbrev sl (g n c : Nat) : Value := .slice (some ⟨g, 0, none⟩) n c

section
variable {w w3 wr : World} {n : Nat} {T V M N : List (List Int)} {gn cn gn' cn' N1 : Nat} {F G : Nat → Value} {a b c d : Value} {Z : Nat → Nat}

theorem Fix.fw (h : Fix w w3 n T V M N gn cn gn' cn' F G) (k : DS w3 wr (sl gn M.length cn) b c d N1 Z) : TG wr w3.heap.size 0 gn cn (bldTo T T.length) M :=
  ⟨k.c0, h.nm.of_block (k.bel.block _ h.nm.lt)⟩
theorem Fix.bw (h : Fix w w3 n T V M N gn cn gn' cn' F G) (k : DS w3 wr a (sl gn' N.length cn') c d N1 Z) : TG wr w3.heap.size 1 gn' cn' (bldTo V V.length) N :=
  ⟨k.c1, h.nn.of_block (k.bel.block _ h.nn.lt)⟩
theorem Fix.text (h : Fix w w3 n T V M N gn cn gn' cn' F G) (k : DS w3 wr a b c d N1 Z) {j : Nat} (hj : j < n) : wr.cell? ⟨w.heap.size, j, none⟩ = some (F j) ∧ ∃ g cap, F j = sl g (tx T j).length cap ∧ g < w3.heap.size ∧ ∀ i, i < (tx T j).length → wr.cell? ⟨g, i, none⟩ = some (.int .i32 (rn (tx T j) i)) := by
  have hs := h.sz
  refine ⟨fcell (k.bel.block _ (by omega)) (h.rt.cell hj), ?_⟩
  obtain ⟨g, cap, e, _, h2, h3⟩ := (h.txt j hj).1
  exact ⟨g, cap, e, h2, fun i hi => fcell (k.bel.block _ h2) (h3 i hi)⟩
theorem Fix.back (h : Fix w w3 n T V M N gn cn gn' cn' F G) (k : DS w3 wr a b c d N1 Z) {j : Nat} (hj : j < n) : wr.cell? ⟨w.heap.size + 1, j, none⟩ = some (G j) ∧ ∃ g cap, G j = sl g (tx V j).length cap ∧ g < w3.heap.size ∧ ∀ i, i < (tx V j).length → wr.cell? ⟨g, i, none⟩ = some (.int .i32 (rn (tx V j) i)) := by
  have hs := h.sz
  refine ⟨fcell (k.bel.block _ (by omega)) (h.rr.cell hj), ?_⟩
  obtain ⟨g, cap, e, _, h2, h3⟩ := (h.txt j hj).2
  exact ⟨g, cap, e, h2, fun i hi => fcell (k.bel.block _ h2) (h3 i hi)⟩
end

theorem own_ge {w : World} {base : Nat} {v : Value} {xs : List Value} {e size m : Nat} (h : w.ownsRow base e size v m xs) : ∀ k, v.ownBlock = some k → base ≤ k := by
  intro k hk
  rcases h.2 with ⟨rfl, _⟩ | ⟨g, cap, cur, rfl, hb, _⟩
  · simp [Value.ownBlock] at hk
  · simp [Value.ownBlock] at hk; omega

section
variable {w w3 wr : World} {n : Nat} {T V M N : List (List Int)} {gn cn gn' cn' N1 : Nat} {F G : Nat → Value} {a b c d : Value} {Z : Nat → Nat}

theorem Fix.path1 (h : Fix w w3 n T V M N gn cn gn' cn' F G) (k : DS w3 wr (sl gn M.length cn) b c d N1 Z) (hM : M.length ≤ 1048577) (hlen : lenTo T n ≤ 1048576) {j : Nat} (hj : j < n) {v : Value} {base : Nat} (hbs : w3.heap.size + 2 ≤ base) (hbase : base ≤ wr.heap.size) (hown : wr.ownsRow base 21 1 v 0 [])
    {gx capx : Nat} (hgx : gx < w3.heap.size) (hcs : ∀ i, i < (tx T j).length → wr.cell? ⟨gx, i, none⟩ = some (.int .i32 (rn (tx T j) i))) :
    Calls Try.prog 27 #[.pointer (some ⟨w3.heap.size, 0, none⟩), sl gx (tx T j).length capx, v] wr fun e w' => Pathed wr base v M (tx T j) e w' := by
  have hge := own_ge hown
  have hl : (tx T j).length ≤ 1048576 := by
    have h1 : lenTo T (j + 1) ≤ lenTo T n := lenTo_mono T hj
    have h2 : lenTo T (j + 1) = lenTo T j + (tx T j).length := rfl
    omega
  have hgn := h.nm.lt
  refine path_any wr w3.heap.size 0 gn cn _ M (some ⟨gx, 0, none⟩) capx (tx T j) v base (by omega) hl h.bm (fun i _ => takeM h.bm (by rw [h.hT]; exact hj) i) (h.fw k) ?_ ?_ hbase hown ?_
  · intro e; have := hge _ e.symm; omega
  · intro e; have := hge _ e.symm; omega
  · refine .inr ⟨gx, 0, rfl, ?_, fun i hi => by rw [Nat.zero_add]; exact hcs i hi⟩
    intro e; have := hge _ e.symm; omega

theorem Fix.path2 (h : Fix w w3 n T V M N gn cn gn' cn' F G) (k : DS w3 wr a (sl gn' N.length cn') c d N1 Z) (hN : N.length ≤ 1048577) (hlen : lenTo V n ≤ 1048576) {j : Nat} (hj : j < n) {v : Value} {base : Nat} (hbs : w3.heap.size + 2 ≤ base) (hbase : base ≤ wr.heap.size) (hown : wr.ownsRow base 21 1 v 0 [])
    {gx capx : Nat} (hgx : gx < w3.heap.size) (hcs : ∀ i, i < (tx V j).length → wr.cell? ⟨gx, i, none⟩ = some (.int .i32 (rn (tx V j) i))) :
    Calls Try.prog 27 #[.pointer (some ⟨w3.heap.size, 1, none⟩), sl gx (tx V j).length capx, v] wr fun e w' => Pathed wr base v N (tx V j) e w' := by
  have hge := own_ge hown
  have hl : (tx V j).length ≤ 1048576 := by
    have h1 : lenTo V (j + 1) ≤ lenTo V n := lenTo_mono V hj
    have h2 : lenTo V (j + 1) = lenTo V j + (tx V j).length := rfl
    omega
  have hgn := h.nn.lt
  refine path_any wr w3.heap.size 1 gn' cn' _ N (some ⟨gx, 0, none⟩) capx (tx V j) v base (by omega) hl h.bn (fun i _ => takeM h.bn (by rw [h.hV]; exact hj) i) (h.bw k) ?_ ?_ hbase hown ?_
  · intro e; have := hge _ e.symm; omega
  · intro e; have := hge _ e.symm; omega
  · refine .inr ⟨gx, 0, rfl, ?_, fun i hi => by rw [Nat.zero_add]; exact hcs i hi⟩
    intro e; have := hge _ e.symm; omega
end

/-- A buffer cut to nothing is one's own still. -/
theorem own_cut {w : World} {base g cap len : Nat} {f : Nat → Nat → Value} (h : OwnK w 21 1 g cap len f) (hb : base ≤ g) : w.ownsRow base 21 1 (sl g 0 cap) 0 [] := by
  obtain ⟨cur, hg, h1, h2, h3, _⟩ := h
  exact ⟨rfl, .inr ⟨g, cap, cur, rfl, hb, hg, Nat.zero_le _, h2, h3, rfl⟩⟩

/-- The path of a text lies in a buffer. -/
structure PB (w : World) (base : Nat) (v : Value) (M : List (List Int)) (t : List Int) (g cap : Nat) : Prop where
  e : v = sl g (t.length + 1) cap
  b : base ≤ g
  own : OwnK w 21 1 g cap (t.length + 1) (pthF M t)

theorem PB.at {w : World} {base : Nat} {v : Value} {M : List (List Int)} {t : List Int} {g cap : Nat} (h : PB w base v M t g cap) {i : Nat} (hi : i ≤ t.length) : w.cell? ⟨g, i, none⟩ = some (.int .i32 (M.idxOf (t.take i) : Nat)) := by
  have := h.own.cell (c := i) (i := 0) (by omega) (by decide)
  rw [Nat.mul_one, Nat.add_zero] at this
  exact this

/-- The counts, one place up. -/
def stC (P : List (Nat × Int)) (j : Nat) : Nat := if j = 0 then 0 else cn P (j - 1)

theorem stC_one (P : List (Nat × Int)) (x : Nat) (l : Int) (j : Nat) : stC (P ++ [(x, l)]) j = if j = x + 1 then stC P j + 1 else stC P j := by
  unfold stC
  by_cases h0 : j = 0
  · rw [if_pos h0, if_pos h0, if_neg (by omega)]
  · rw [if_neg h0, if_neg h0, cn_append, cn_one]
    by_cases e : j = x + 1
    · rw [if_pos e, if_pos (by omega)]
    · rw [if_neg e, if_neg (by omega)]; rfl

theorem stC_at (P : List (Nat × Int)) (x : Nat) : stC P (x + 1) = cn P x := by unfold stC; rw [if_neg (by omega)]; rfl

theorem cn_le (P : List (Nat × Int)) (v : Nat) : cn P v ≤ P.length := List.countP_le_length

theorem DS.count {w3 wr : World} {a b c d : Value} {N1 : Nat} {P : List (Nat × Int)} (h : DS w3 wr a b c d N1 (stC P)) (x : Nat) (l : Int) (z : Nat) (hz : stC P (x + 1) = z) : DS w3 (wr.setCell ⟨w3.heap.size + 1, x + 1, none⟩ (.int .i32 ((z + 1 : Nat) : Int))) a b c d N1 (stC (P ++ [(x, l)])) :=
  (h.put (x + 1) (z + 1)).congr (fun j hj => by
    rw [stC_one]
    by_cases e : j = x + 1
    · rw [if_pos e, if_pos e, e, hz]
    · rw [if_neg e, if_neg e])

theorem prU_len {M N T : List (List Int)} {C : Nat → Int} {i b : Nat} (hi : i < T.length) (hb : b ≤ (tx T i).length + 1) : (prU M N T C i b).length ≤ 2 * lenTo T T.length + T.length := by
  obtain ⟨Q, h⟩ := prU_in M N T C hi hb
  have := prS_len M N T C T.length
  rw [h, List.length_append] at this
  omega

/-- The sums, as far as j. -/
def stP (P : List (Nat × Int)) (j i : Nat) : Nat := if i < j then blw P i else stC P i

theorem stP_one (P : List (Nat × Int)) (i : Nat) : stC P i = stP P 1 i := by
  unfold stP
  by_cases h : i < 1
  · obtain rfl : i = 0 := by omega
    rw [if_pos h, blw_zero]; rfl
  · rw [if_neg h]

theorem stP_step (P : List (Nat × Int)) {j : Nat} (hj : 1 ≤ j) : blw P (j - 1) + stC P j = blw P j := by
  obtain ⟨m, rfl⟩ : ∃ m, j = m + 1 := ⟨j - 1, by omega⟩
  rw [stC_at, Nat.add_sub_cancel, blw_succ]

theorem DS.sum {w3 wr : World} {a b c d : Value} {N1 j : Nat} {P : List (Nat × Int)} (h : DS w3 wr a b c d N1 (stP P j)) : DS w3 (wr.setCell ⟨w3.heap.size + 1, j, none⟩ (.int .i32 ((blw P j : Nat) : Int))) a b c d N1 (stP P (j + 1)) :=
  (h.put j (blw P j)).congr (fun i hi => by
    unfold stP
    by_cases e : i = j
    · rw [if_pos e, if_pos (by omega), e]
    · rw [if_neg e]
      by_cases e2 : i < j
      · rw [if_pos e2, if_pos (by omega)]
      · rw [if_neg e2, if_neg (by omega)])

theorem DS.start (w3 : World) (a b : Value) (N1 : Nat) : DS w3 ((w3.alloc (.cells #[a, b, sl (w3.heap.size + 1) N1 N1, .slice none 0 0] 71)).alloc (.cells (madeCells #[.int .i32 0] N1) 21)) a b (sl (w3.heap.size + 1) N1 N1) (.slice none 0 0) N1 (stC []) where
  bel := ((Below.refl _ _).alloc (Nat.le_refl _) _).alloc (by simp) _
  box := by
    have h := World.rowIs_alloc w3 #[a, b, sl (w3.heap.size + 1) N1 N1, .slice none 0 0] 71 (pxF a b (sl (w3.heap.size + 1) N1 N1) (.slice none 0 0)) (fun i hi => by
      match i, hi with
      | 0, _ => rfl
      | 1, _ => rfl
      | 2, _ => rfl
      | 3, _ => rfl)
    exact h.alloc _
  st := by
    have h := World.rowIs_made (w3.alloc (.cells #[a, b, sl (w3.heap.size + 1) N1 N1, .slice none 0 0] 71)) (.int .i32 0) N1 21
    have e : (w3.alloc (.cells #[a, b, sl (w3.heap.size + 1) N1 N1, .slice none 0 0] 71)).heap.size = w3.heap.size + 1 := by simp
    rw [e] at h
    exact h.congr (fun i hi => by unfold stF stC cn; split <;> rfl)

/-- The row 'next'. -/
def nxF (P P1 : List (Nat × Int)) (j i : Nat) : Value := .int .i32 ((blw P j + cn P1 j : Nat) : Int)

/-- The links are being laid: P1 of P have been. -/
structure LS (w3 wr : World) (a b c : Value) (m : Nat) (P P1 : List (Nat × Int)) (gl gx cx : Nat) (R : Nat → Int) : Prop where
  ds : DS w3 wr a b c (sl gl P.length P.length) (m + 1) (blw P)
  ln : wr.rowIs gl 50 P.length (rowU R)
  nx : OwnK wr 21 1 gx cx m (nxF P P1)
  laid : Laid P P1 R

section
variable {w3 wr w' : World} {a b c : Value} {m : Nat} {P P1 : List (Nat × Int)} {gl gx cx : Nat} {R : Nat → Int}

theorem LS.grown (h : LS w3 wr a b c m P P1 gl gx cx R) {row : Option Nat} (hg : wr.grownBy w' row) (hr : ∀ k, row = some k → w3.heap.size + 2 ≤ k ∧ k ≠ gl ∧ k ≠ gx) : LS w3 w' a b c m P P1 gl gx cx R :=
  ⟨h.ds.grown hg (fun k hk => (hr k hk).1), h.ln.of_block (hg.block _ h.ln.lt (fun e => (hr gl e.symm).2.1 rfl)), h.nx.of_block (hg.block _ h.nx.lt (fun e => (hr gx e.symm).2.2 rfl)), h.laid⟩

theorem LS.alloc (h : LS w3 wr a b c m P P1 gl gx cx R) (o : Obj) : LS w3 (wr.alloc o) a b c m P P1 gl gx cx R :=
  h.grown (row := none) (grown_alloc (U.grown_refl _ _) o) (fun k hk => by cases hk)

theorem LS.drewN (h : LS w3 wr a b c m P P1 gl gx cx R) (q : Nat) : LS w3 (wr.drewN q) a b c m P P1 gl gx cx R :=
  h.grown (row := none) (grown_drewN (U.grown_refl _ _) q) (fun k hk => by cases hk)
theorem LS.drew (h : LS w3 wr a b c m P P1 gl gx cx R) : LS w3 wr.drew a b c m P P1 gl gx cx R := h.drewN 1

/-- A link is laid, and 'next' goes on. -/
theorem LS.lay (h : LS w3 wr a b c m P P1 gl gx cx R) {Q : List (Nat × Int)} {x : Nat} {l : Int} (hP : P = (P1 ++ [(x, l)]) ++ Q) (hx : x < m) (hgl : w3.heap.size + 2 ≤ gl) (hgx : w3.heap.size + 2 ≤ gx) (hne : gl ≠ gx) {q : Nat} (hq : blw P x + cn P1 x = q) :
    LS w3 ((wr.setCell ⟨gl, q, none⟩ (.int .u64 l)).drew.setCell ⟨gx, x, none⟩ (.int .i32 ((q + 1 : Nat) : Int))) a b c m P (P1 ++ [(x, l)]) gl gx cx (putI R q l) := by
  subst hq
  refine ⟨?_, ?_, ?_, (h.laid.step hP).1⟩
  · exact h.ds.same ((((Below.refl _ _).setCell hgl _).drew).setCell hgx _)
  · refine (((h.ln.set _ _).drew).setOther (by exact hne) _).congr (fun i hi => ?_)
    unfold rowU putI
    split <;> rfl
  · have h1 : OwnK (wr.setCell ⟨gl, blw P x + cn P1 x, none⟩ (.int .u64 l)).drew 21 1 gx cx m (nxF P P1) := (h.nx.setOther (by exact Ne.symm hne) _).drew
    have h2 := h1.set (c := x) (i := 0) hx (by decide) (.int .i32 ((blw P x + cn P1 x + 1 : Nat) : Int))
    rw [Nat.mul_one, Nat.add_zero] at h2
    refine h2.congr (fun j i hj hi => ?_)
    obtain rfl : i = 0 := by omega
    unfold nxF
    rw [cn_append, cn_one]
    by_cases e : j = x
    · rw [if_pos ⟨e, rfl⟩, if_pos e.symm, e]
      congr 1
    · rw [if_neg (by omega), if_neg (fun h => e h.symm)]
      rfl

theorem LS.at (h : LS w3 wr a b c m P P1 gl gx cx R) {x : Nat} (hx : x < m) : wr.cell? ⟨gx, x, none⟩ = some (.int .i32 ((blw P x + cn P1 x : Nat) : Int)) := by
  have := h.nx.cell (c := x) (i := 0) hx (by decide)
  rw [Nat.mul_one, Nat.add_zero] at this
  exact this

end

/-- The sums as a list of numbers. -/
def blL (P : List (Nat × Int)) (m : Nat) : List Int := (List.range m).map fun j => ((blw P j : Nat) : Int)
theorem blL_len (P : List (Nat × Int)) (m : Nat) : (blL P m).length = m := by simp [blL]
theorem blL_at (P : List (Nat × Int)) {m j : Nat} (h : j < m) : rn (blL P m) j = ((blw P j : Nat) : Int) := by
  unfold rn blL; rw [List.getD_eq_getElem?_getD, List.getElem?_map, List.getElem?_range h]; rfl

theorem LS.start {w3 wd we : World} {a b c : Value} {m : Nat} {P : List (Nat × Int)} {gl gx cx : Nat} (hd : DS w3 wd a b c (sl gl P.length P.length) (m + 1) (blw P)) (hl : wd.rowIs gl 50 P.length (fun _ => .int .u64 0)) (hx : OwnK we 21 1 gx cx (blL P m).length (runF (blL P m))) (hb : Below wd.heap.size wd we) :
    LS w3 we a b c m P [] gl gx cx (fun _ => 0) where
  ds := hd.same (hb.mono hd.size)
  ln := (hl.of_block (hb.block _ hl.lt)).congr (fun i hi => rfl)
  nx := by
    rw [blL_len] at hx
    exact hx.congr (fun j i hj hi => by unfold runF nxF cn; rw [blL_at P hj]; simp)
  laid := Laid.start P _

theorem Buf.alloc {w : World} {base gl gx : Nat} {v : Value} (h : Buf w base [gl, gx] v) (o : Obj) : Buf (w.alloc o) base [gl, gx, w.heap.size] v := by
  rcases h with h | ⟨g, len, cap, f, e, h1, h2, h3⟩
  · exact .inl h
  · have := h3.lt
    exact .inr ⟨g, len, cap, f, e, h1, by simp at h2; simp; omega, h3.alloc o⟩

/-- What stays when a path is written into a buffer. -/
structure Kept (w4 w8 : World) (base : Nat) (av : List Nat) (g8 : Nat) (v : Value) : Prop where
  gr : w4.grownBy w8 v.ownBlock
  nav : g8 ∉ av
  own : ∀ k, v.ownBlock = some k → base ≤ k ∧ k ∉ av
  same : v.ownBlock = some g8 ∨ w4.heap.size ≤ g8

theorem Kept.make {w4 w8 : World} {base g8 : Nat} {av : List Nat} {v : Value} (hgr : w4.grownBy w8 v.ownBlock) (hat : v.ownBlock = some g8 ∨ w4.heap.size ≤ g8) (hav : ∀ k ∈ av, k < w4.heap.size) (hv : ∀ k, v.ownBlock = some k → base ≤ k ∧ k ∉ av) : Kept w4 w8 base av g8 v :=
  ⟨hgr, by
    rcases hat with h | h
    · exact (hv _ h).2
    · intro hc; have := hav _ hc; omega, hv, hat⟩

/-- The other buffer. -/
theorem Kept.buf {w4 w8 : World} {base g8 : Nat} {av : List Nat} {v v9 : Value} (h : Kept w4 w8 base av g8 v) (hb : Buf w4 base av v9) (hd : ∀ g, v.ownBlock = some g → v9.ownBlock ≠ some g) : Buf w8 base (g8 :: av) v9 := by
  rcases hb with e | ⟨g, len, cap, f, rfl, h1, h2, h3⟩
  · exact .inl e
  · have hl := h3.lt
    refine .inr ⟨g, len, cap, f, rfl, h1, ?_, h3.of_block (h.gr.block g hl ?_)⟩
    · simp only [List.mem_cons, not_or]
      refine ⟨?_, h2⟩
      rintro rfl
      rcases h.same with e | e
      · exact hd _ e (by simp [Value.ownBlock])
      · omega
    · intro e
      exact hd _ e.symm (by simp [Value.ownBlock])

theorem Kept.ls {w3 w4 w8 : World} {base g8 : Nat} {av : List Nat} {v : Value} (h : Kept w4 w8 base av g8 v) {a b c : Value} {m : Nat} {P P1 : List (Nat × Int)} {gl gx cx : Nat} {R : Nat → Int} (hL : LS w3 w4 a b c m P P1 gl gx cx R) (hb : w3.heap.size + 2 ≤ base) (h1 : gl ∈ av) (h2 : gx ∈ av) : LS w3 w8 a b c m P P1 gl gx cx R :=
  hL.grown h.gr (fun k hk => ⟨by have := (h.own k hk).1; omega, fun e => (h.own k hk).2 (e ▸ h1), fun e => (h.own k hk).2 (e ▸ h2)⟩)

theorem Kept.cell {w4 w8 : World} {base g8 : Nat} {av : List Nat} {v : Value} (h : Kept w4 w8 base av g8 v) {g o : Nat} {x : Value} (hg : g ∈ av) (hc : w4.cell? ⟨g, o, none⟩ = some x) : w8.cell? ⟨g, o, none⟩ = some x :=
  fcell (h.gr.block g (old_of hc) (fun e => (h.own g e.symm).2 hg)) hc

theorem Kept.pb {w4 w8 : World} {base g8 : Nat} {av : List Nat} {v : Value} (h : Kept w4 w8 base av g8 v) {base' g cap : Nat} {u : Value} {M : List (List Int)} {t : List Int} (hg : g ∈ av) (hp : PB w4 base' u M t g cap) : PB w8 base' u M t g cap :=
  ⟨hp.e, hp.b, hp.own.of_block (h.gr.block g hp.own.lt (fun e => (h.own g e.symm).2 hg))⟩

theorem PB.buf {w w' : World} {base : Nat} {v : Value} {M : List (List Int)} {t : List Int} {g cap gl gx n : Nat} (h : PB w base v M t g cap) (htw : Two w w' gl gx) (h1 : g ≠ gl) (h2 : g ≠ gx) (hn : n = t.length + 1) : Buf w' base [gl, gx] (sl g n cap) := by
  subst hn
  exact .inr ⟨g, t.length + 1, cap, pthF M t, rfl, h.b, by simp [h1, h2], h.own.of_block (htw.block g h.own.lt h1 h2)⟩

theorem dis_sl {g8 n8 c8 g9 n9 c9 : Nat} (h : ¬ g9 = g8) : ∀ g, (sl g8 n8 c8).ownBlock = some g → (sl g9 n9 c9).ownBlock ≠ some g := by
  intro g h1 h2
  simp [Value.ownBlock] at h1 h2
  omega

/-- The index in memory. -/
structure IX (w : World) (T V M N : List (List Int)) (P : List (Nat × Int)) (px gn cn gn' cn' gs gl : Nat) (R : Nat → Int) : Prop where
  bm : BF (bldTo T T.length) M M.length
  bn : BF (bldTo V V.length) N N.length
  hm : M.length ≤ 1048577
  hn : N.length ≤ 1048577
  fw : TG w px 0 gn cn (bldTo T T.length) M
  bw : TG w px 1 gn' cn' (bldTo V V.length) N
  c2 : w.cell? ⟨px, 2, none⟩ = some (.slice (some ⟨gs, 0, none⟩) (M.length + 1) (M.length + 1))
  st : w.rowIs gs 21 (M.length + 1) (stF (blw P))
  c3 : w.cell? ⟨px, 3, none⟩ = some (.slice (some ⟨gl, 0, none⟩) P.length P.length)
  ln : w.rowIs gl 50 P.length (rowU R)
  dn : Done P M.length R
  pl : P.length ≤ 2162688

theorem IX.below {w w' : World} {T V M N : List (List Int)} {P : List (Nat × Int)} {px gn cn gn' cn' gs gl : Nat} {R : Nat → Int} (h : IX w T V M N P px gn cn gn' cn' gs gl R) (hb : Below w.heap.size w w') : IX w' T V M N P px gn cn gn' cn' gs gl R :=
  ⟨h.bm, h.bn, h.hm, h.hn, h.fw.below hb h.fw.plt h.fw.nod.lt, h.bw.below hb h.bw.plt h.bw.nod.lt, fcell (hb.block _ h.fw.plt) h.c2, h.st.of_block (hb.block _ h.st.lt), fcell (hb.block _ h.fw.plt) h.c3, h.ln.of_block (hb.block _ h.ln.lt), h.dn, h.pl⟩

/-- What newSpellingIndex leaves. -/
def Indexed (w : World) (n : Nat) (str : Nat → ByteArray) (ch : Nat → Int) (e : Ending) (w' : World) : Prop :=
  ∃ (M N : List (List Int)) (px gn cn gn' cn' gs gl : Nat) (R : Nat → Int), e = .returned (.pointer (some ⟨px, 0, none⟩)) ∧ IX w' (tsT str n) (tsV str n) M N (prS M N (tsT str n) ch n) px gn cn gn' cn' gs gl R ∧ Below w.heap.size w w'

/-- Loop 7: the parts of the nodes ahead of j are in order. -/
def Upto (P : List (Nat × Int)) (R R' : Nat → Int) (j : Nat) : Prop :=
  (∀ v, v < j → Srtd R' (blw P v) (blw P (v + 1)) ∧ (sgI R' (blw P v) (U.cn P v)).Perm (lksAt P v)) ∧ ∀ i, blw P j ≤ i → R' i = R i

theorem sgI_congr {R S : Nat → Int} {lo k : Nat} (h : ∀ i, lo ≤ i → i < lo + k → R i = S i) : sgI R lo k = sgI S lo k := by
  unfold sgI
  apply List.map_congr_left
  intro i hi
  have := List.mem_range.1 hi
  exact h _ (by omega) (by omega)

theorem Upto.step {P : List (Nat × Int)} {R R' R2 : Nat → Int} {j : Nat} (h : Upto P R R' j) (hl : Laid P P R) (hs : Sw (blw P j) (blw P (j + 1)) R' R2) (ho : Srtd R2 (blw P j) (blw P (j + 1))) : Upto P R R2 (j + 1) := by
  have hle : blw P j ≤ blw P (j + 1) := blw_mono P (Nat.le_succ j)
  refine ⟨fun v hv => ?_, fun i hi => ?_⟩
  · by_cases e : v = j
    · subst e
      refine ⟨ho, ?_⟩
      have h1 := hs.perm
      have e1 : blw P (v + 1) - blw P v = U.cn P v := by rw [blw_succ]; omega
      rw [e1] at h1
      refine h1.trans ?_
      rw [sgI_congr (S := R) (fun i h1 _ => h.2 i h1), hl.part v]
    · have hm := blw_mono P (show v + 1 ≤ j by omega)
      obtain ⟨h1, h2⟩ := h.1 v (by omega)
      refine ⟨fun a b ha hab hb => ?_, ?_⟩
      · rw [hs.out (.inl (by omega)), hs.out (.inl (by omega))]
        exact h1 a b ha hab hb
      · rw [sgI_congr (S := R') (fun i h3 h4 => hs.out (.inl (by rw [blw_succ] at hm; omega)))]
        exact h2
  · rw [hs.out (.inr hi)]
    exact h.2 i (by omega)

theorem Upto.start (P : List (Nat × Int)) (R : Nat → Int) : Upto P R R 0 := ⟨fun v hv => by omega, fun _ _ => rfl⟩
theorem Upto.done {P : List (Nat × Int)} {R R' : Nat → Int} {N : Nat} (h : Upto P R R' N) : Done P N R' := fun v hv => h.1 v hv

/-- What the sort of a part leaves. -/
def SP (W : World) (gl L a b2 : Nat) (R : Nat → Int) (e : Ending) (w' : World) : Prop :=
  e = .returned (.tuple #[]) ∧ ∃ R2, w'.rowIs gl 50 L (rowU R2) ∧ W.grownBy w' (some gl) ∧ Sw a b2 R R2 ∧ Srtd R2 a b2

theorem sort_part (W : World) (gl L a b2 cap : Nat) (R : Nat → Int) (hrow : W.rowIs gl 50 L (rowU R)) (hab : a ≤ b2) (hb : b2 ≤ L) (hL : L ≤ 16777216) (A : Option Addr) (hA : a = b2 ∨ A = some ⟨gl, a, none⟩) (n : Nat) (hn : n = b2 - a) :
    Calls Try.prog 38 #[.slice A n cap] W fun e w' => SP W gl L a b2 R e w' := by
  subst hn
  rcases hA with rfl | rfl
  · have h := sort0 W A cap
    rw [show (0 : Nat) = a - a by omega] at h
    refine h.mono ?_
    rintro e w' ⟨rfl, rfl⟩
    exact ⟨rfl, R, hrow, U.grown_refl _ _, .refl, fun i j h1 h2 h3 => by omega⟩
  · refine (sortU W gl L a (b2 - a) cap R hrow (by omega) hL).mono ?_
    rintro e w' ⟨rfl, R2, h1, h2, h3⟩
    rw [Nat.add_zero, show a + (b2 - a) = b2 by omega] at h2 h3
    exact ⟨rfl, R2, h1.row, h1.gr, h2, h3⟩

theorem lenTo_rev (str : Nat → ByteArray) (n : Nat) : lenTo (tsV str n) n = lenTo (tsT str n) n := lenTo_rev_le str n n (Nat.le_refl _)

end Go.Proofs.Qxb6608903a.Ix
