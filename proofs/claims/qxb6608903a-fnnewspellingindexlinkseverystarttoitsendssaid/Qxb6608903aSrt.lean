/-
  slices.SortFunc at the trie's nodes (31), its closure (32), by the shelf's contract.
-/
import Derived.Test.Qxb6608903aRows
import Derived.Test.Qxb6608903aRowK
import Derived.Test.Qxb6608903aPb
import Derived.Shelf.SlSortCmp.NoneTotal
import Derived.Shelf.SlGeneric
import Derived.Shelf.Lay
import Derived.Ground.SlsfProg
import Derived.WalkKit
namespace Go.Proofs
open Go.Shelf Go.RowKit Go.Lib Go.Sort
set_option maxRecDepth 100000 in
shelf_lay_g SlLaysF0.n6 Slsf 6 at Try 31 as Qxb6608903a.sortN
end Go.Proofs
namespace Go.Proofs.Qxb6608903a.Srt
open Go.RowKit Mem Plain Go.Sort
set_option linter.unusedVariables false

/-- cmp.Compare. -/
def cmpI (x y : Int) : Int := if x < y then -1 else if y < x then 1 else 0

theorem ltOf_cmp {α : Type} (k : α → Int) (x y : α) : ltOf (fun x y => cmpI (k x) (k y)) x y = decide (k x < k y) := by
  unfold ltOf cmpI
  by_cases h1 : k x < k y
  · simp [h1]
  · by_cases h2 : k y < k x <;> simp [h1, h2]

theorem swo_cmp {α : Type} [Inhabited α] (k : α → Int) : SWO (ltOf fun x y : α => cmpI (k x) (k y)) where
  irrefl x := by rw [ltOf_cmp]; simp
  trans x y z h1 h2 := by rw [ltOf_cmp] at *; simp at *; omega
  ntrans x y z h1 h2 := by rw [ltOf_cmp] at *; simp at *; omega

theorem two_blocks (W : World) (o o' : Obj) : (W.alloc o).alloc o' = grow (W.drewN 0) (#[o] ++ #[o']) := by rw [alloc_eq_grow, alloc_eq_grow, grow_grow]; rfl

set_option maxHeartbeats 1000000 in
theorem closure32 (a b c a' b' c' : Int) (W : World) :
    Calls Try.prog 32 #[.agg #[.int .i32 a, .int .i32 b, .int .i32 c], .agg #[.int .i32 a', .int .i32 b', .int .i32 c']] W fun e w' => e = .returned (.int .i64 (cmpI a a')) ∧ ∃ q os', w' = grow (W.drewN q) os' := by
  have n1 : (a != a) = false := by simp
  have n2 : (a' != a') = false := by simp
  by_cases h1 : a < a'
  · have e : cmpI a a' = -1 := by unfold cmpI; rw [if_pos h1]
    rw [e]
    clear e
    go_enter Try.func32, Try.ntmps32
    go_wp2
    go_ret
    exact ⟨rfl, 0, _, two_blocks _ _ _⟩
  · by_cases h2 : a' < a
    · have e : cmpI a a' = 1 := by unfold cmpI; rw [if_neg h1, if_pos h2]
      rw [e]
      clear e
      go_enter Try.func32, Try.ntmps32
      go_wp2
      go_ret
      exact ⟨rfl, 0, _, two_blocks _ _ _⟩
    · have e : cmpI a a' = 0 := by unfold cmpI; rw [if_neg h1, if_neg h2]
      rw [e]
      clear e
      go_enter Try.func32, Try.ntmps32
      go_wp2
      go_ret
      exact ⟨rfl, 0, _, two_blocks _ _ _⟩

/-- A node's three cells while it waits: its character, its chain node, 0. -/
def encN (S : List (List Int)) (v : List Int) : List Value := [.int .i32 (lastC v), .int .i32 (S.idxOf v : Nat), .int .i32 0]

theorem isAgg68 : ∀ w, (isAgg 68).run Try.prog w = .ok true w := fun _ => by kernel_rfl
theorem sizeOf68 : ∀ w, (Go.sizeOf 68).run Try.prog w = .ok 3 w := fun _ => by kernel_rfl

/-- What a sort does to memory: the row is laid anew, draws are made, blocks are laid behind. -/
theorem sortWorld_below {α : Type} [Inhabited α] (enc : α → List Value) (k : Nat) (w : World) (blk off n : Nat) (d : Array α) (os : Array Obj) {B : Nat} (hB : B ≤ w.heap.size) (hb : B ≤ blk) :
    Below B w (sortWorldK enc k w blk off n d os) := by
  refine ⟨rfl, rfl, rfl, ?_, fun i hi => ?_⟩
  · unfold sortWorldK; rw [size_grow]; show _ ≤ (putRow id _ _ _ _).heap.size + _; rw [size_putRow]; exact Nat.le_add_right _ _
  · unfold sortWorldK grow putRowK putRow mapBlock Sort.ahead
    simp only [Array.getElem?_append, Array.size_modify]
    rw [if_pos (by omega), Array.getElem?_modify, if_neg (by omega)]

theorem sortWorld_block {α : Type} [Inhabited α] (enc : α → List Value) (k : Nat) (w : World) (blk off n : Nat) (d : Array α) (os : Array Obj) {i : Nat} (hi : i < w.heap.size) (hne : i ≠ blk) :
    (sortWorldK enc k w blk off n d os).heap[i]? = w.heap[i]? := by
  unfold sortWorldK grow putRowK putRow mapBlock Sort.ahead
  simp only [Array.getElem?_append, Array.size_modify]
  rw [if_pos hi, Array.getElem?_modify, if_neg (by omega)]

/-- The row behind a sort of its tail. -/
theorem sortWorld_own {α : Type} [Inhabited α] (enc : α → List Value) (s : Nat) (hs : 0 < s) (henc : ∀ x, (enc x).length = s) (w : World) (e g cap m nn : Nat) (d : Array α) (os : Array Obj) {N : Nat → Nat → Value} (h : OwnK w e s g cap (m + d.size) N) :
    OwnK (sortWorldK enc s w g (m * s) nn d os) e s g cap (m + d.size) (fun c i => if c < m then N c i else (enc d[c - m]!)[i]!) := by
  have hlt := h.lt
  obtain ⟨cur, hg, h1, h2, h3, hF⟩ := h
  refine ⟨putCells id (m * s) (Go.Sort.flatK enc s d) cur, ?_, h1, h2, by simp [putCells, h3], fun c i hc hi => ?_⟩
  · unfold sortWorldK grow putRowK putRow mapBlock Sort.ahead
    simp only [Array.getElem?_append, Array.size_modify]
    rw [if_pos hlt, Array.getElem?_modify, if_pos rfl, hg]
    rfl
  · have hcur := hF c i hc hi
    show _ = some (if c < m then N c i else (enc d[c - m]!)[i]!)
    simp only [putCells, Array.getElem?_mapIdx, hcur, Option.map_some, Go.Sort.size_flatK, id]
    have hmul : c * s + i < (c + 1) * s := by rw [Nat.succ_mul]; omega
    by_cases hcm : c < m
    · have : (c + 1) * s ≤ m * s := Nat.mul_le_mul_right s hcm
      rw [if_neg (by omega), if_pos hcm]
    · have e1 : m * s ≤ c * s := Nat.mul_le_mul_right s (by omega)
      have e2 : (c + 1) * s ≤ (m + d.size) * s := Nat.mul_le_mul_right s (by omega)
      rw [Nat.add_mul m] at e2
      rw [if_pos ⟨by omega, by omega⟩, if_neg hcm]
      have e3 : c * s + i - m * s = (c - m) * s + i := by rw [Nat.sub_mul]; omega
      have e4 : (c - m) * s + i < d.size * s := by rw [← e3]; omega
      rw [e3, Go.Sort.get_flatK _ _ _ _ e4]
      have e5 : ((c - m) * s + i) / s = c - m := by rw [Nat.mul_comm, Nat.mul_add_div hs, Nat.div_eq_of_lt hi]; rfl
      have e6 : ((c - m) * s + i) % s = i := by rw [Nat.mul_comm, Nat.mul_add_mod, Nat.mod_eq_of_lt hi]
      rw [e5, e6]

theorem cmpLays32 (S : List (List Int)) (blk off size : Nat) (w : World) : CmpLays Try.prog 32 #[] (encN S) 3 (fun x y => cmpI (lastC x) (lastC y)) blk off size w :=
  fun _ _ _ _ x y => closure32 _ _ _ _ _ _ _

/-- THE SORT OF A NODE's CHILDREN, at the tail of the nodes. -/
theorem sort_tail (S : List (List Int)) (g cap c2 m : Nat) (D : List (List Int)) (w : World) (h0 : D ≠ []) (hsz : D.length < 4611686018427387904) {N : Nat → Nat → Value} (h : OwnK w 68 3 g cap (m + D.length) N)
    (hN : ∀ q i, q < D.length → i < 3 → N (m + q) i = (encN S (D.getD q []))[i]!) :
    Calls Try.prog 31 #[.slice (some ⟨g, m * 3, none⟩) D.length c2, .func (.func 32) #[] #[]] w fun e w' =>
      e = .returned (.tuple #[]) ∧ ∃ D' : List (List Int), D'.Perm D ∧ (∀ q q', q < q' → q' < D'.length → lastC (D'.getD q []) ≤ lastC (D'.getD q' [])) ∧
        OwnK w' 68 3 g cap (m + D.length) (fun c i => if c < m then N c i else (encN S (D'.getD (c - m) []))[i]!) ∧
        (∀ B, B ≤ w.heap.size → B ≤ g → Below B w w') ∧ (∀ i, i < w.heap.size → i ≠ g → w'.heap[i]? = w.heap[i]?) := by
  have eg : ∀ args w, (callFunc 32 args).run Try.prog w = .ok (.enter 32 args) w := enters_of Try.func32 (by kernel_rfl) rfl
  have hH : HoldsK (encN S) 3 w g (m * 3) D.toArray := by
    intro j hj
    rw [Go.Sort.size_flatK] at hj
    have hj' : j < D.length * 3 := by simpa using hj
    have hd : j / 3 < D.length := by omega
    have hm : j % 3 < 3 := by omega
    have hc := h.cell (c := m + j / 3) (i := j % 3) (by omega) hm
    rw [hN _ _ hd hm] at hc
    have ea : (m + j / 3) * 3 + j % 3 = m * 3 + j := by omega
    rw [ea] at hc
    refine ⟨?_, h.frozen _⟩
    rw [hc, Go.Sort.get_flatK _ _ _ _ hj]
    simp [List.getD_eq_getElem?_getD, hd]
  have hcon := AnyQ.slices_SortFunc sortN 3 isAgg68 sizeOf68 (encN S) (fun _ => rfl) (fun x v hv => by simp [encN] at hv; rcases hv with rfl | rfl | rfl <;> rfl) (fun x y => cmpI (lastC x) (lastC y)) (swo_cmp lastC) 32 #[] g (m * 3) c2 D.toArray w eg (cmpLays32 S _ _ _ w) hH h.lt (by simpa using hsz)
  change Calls Try.prog 31 _ _ _ at hcon
  have hds : D.toArray.size = D.length := by simp
  rw [hds] at hcon
  refine hcon.mono fun e w' ⟨he, d', n, os, hp, hs, hw⟩ => ⟨he, d'.toList, ?_, ?_, ?_, ?_, ?_⟩
  · obtain ⟨h1, _, h3⟩ := hp
    have e1 : d'.extract 0 D.length = d' := by
      have : d'.size = D.length := by simpa using h1
      rw [← this]; simp
    have e2 : D.toArray.extract 0 D.length = D.toArray := by rw [← hds]; simp
    rw [e1, e2] at h3
    simpa using h3
  · intro q q' hq hq'
    have hsz' : d'.size = D.length := by simpa using hp.1
    have hq2 : q' < D.length := by rw [← hsz']; simpa using hq'
    have := hs q q' (Nat.zero_le _) hq hq2
    rw [ltOf_cmp] at this
    simp at this
    have g1 : d'.toList.getD q [] = d'[q]! := by
      rw [List.getD_eq_getElem?_getD, Array.getElem?_toList, getElem!_pos d' q (by omega), Array.getElem?_eq_getElem (by omega)]; rfl
    have g2 : d'.toList.getD q' [] = d'[q']! := by
      rw [List.getD_eq_getElem?_getD, Array.getElem?_toList, getElem!_pos d' q' (by omega), Array.getElem?_eq_getElem (by omega)]; rfl
    rw [g1, g2]
    exact this
  · have hsz' : d'.size = D.length := by simpa using hp.1
    rw [hw]
    have ho := sortWorld_own (encN S) 3 (by decide) (fun _ => rfl) w 68 g cap m n d' os (N := N) (by rw [hsz']; exact h)
    rw [hsz'] at ho
    refine ho.congr fun c i hc hi => ?_
    by_cases e : c < m
    · rw [if_pos e, if_pos e]
    · rw [if_neg e, if_neg e]
      have g1 : d'.toList.getD (c - m) [] = d'[c - m]! := by
        rw [List.getD_eq_getElem?_getD, Array.getElem?_toList, getElem!_pos d' (c - m) (by omega), Array.getElem?_eq_getElem (by omega)]; rfl
      rw [g1]
  · intro B h1 h2
    rw [hw]; exact sortWorld_below _ _ _ _ _ _ _ _ h1 h2
  · intro i h1 h2
    rw [hw]; exact sortWorld_block _ _ _ _ _ _ _ _ h1 h2

/-- A node with no child. -/
theorem sort_none (p : Option Addr) (cap : Nat) (w : World) :
    Calls Try.prog 31 #[.slice p 0 cap, .func (.func 32) #[] #[]] w fun e w' => e = .returned (.tuple #[]) ∧ w' = w :=
  AnyF.slices_SortFunc_none sortN p cap _ w

end Go.Proofs.Qxb6608903a.Srt
