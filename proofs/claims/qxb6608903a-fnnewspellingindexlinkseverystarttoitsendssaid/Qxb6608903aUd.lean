/-
  order2Ordered (74), medianOrdered (71), medianAdjacentOrdered (70), choosePivotOrdered (58) over a uint64.
-/
import Derived.Test.Qxb6608903aUc
namespace Go.Proofs.Qxb6608903a.U
open Go.RowKit Mem Go.Sort
set_option linter.unusedVariables false

/-- w' is w but for the counter at s. -/
structure CS (w w' : World) (s : Nat) : Prop where
  cnt : ∃ c : Int, w'.rowIs s 3 1 (fun _ => .int .i64 c)
  gr : w.grownBy w' (some s)

theorem CS.trans {w w1 w2 : World} {s : Nat} (h : CS w w1 s) (k : CS w1 w2 s) : CS w w2 s := ⟨k.cnt, h.gr.trans k.gr⟩

theorem CS.row {w w' : World} {s g N : Nat} {R : Nat → Int} (h : CS w w' s) (hr : w.rowIs g 50 N (rowU R)) (hne : g ≠ s) : w'.rowIs g 50 N (rowU R) :=
  hr.of_block (h.gr.block g hr.lt (by simpa using hne))

theorem one_set {w : World} {b t : Nat} {f : Nat → Value} (h : w.rowIs b t 1 f) (v : Value) : (w.setCell ⟨b, 0, none⟩ v).rowIs b t 1 (fun _ => v) :=
  (h.set 0 v).congr fun i hi => by rw [if_pos (by omega)]

theorem grown_new {w w1 w2 : World} {s : Nat} (row : Option Nat) (h : w.grownBy w1 none) (k : w1.grownBy w2 (some s)) (hs : w.heap.size ≤ s) : w.grownBy w2 row :=
  ⟨k.os.trans h.os, k.tape.trans h.tape, k.output.trans h.output, Nat.le_trans h.size k.size, fun i hi hne => (k.block i (by have := h.size; omega) (by simp; omega)).trans (h.block i hi (by simp))⟩

theorem dr_grown (w : World) (q : Nat) (row : Option Nat) : w.grownBy (w.drewN q) row := ⟨rfl, rfl, rfl, Nat.le_refl _, fun _ _ _ => rfl⟩

set_option maxHeartbeats 1000000 in
theorem order2 (w : World) (g N off n cap a b s : Nat) (c : Int) (R : Nat → Int) (hrow : w.rowIs g 50 N (rowU R)) (hs : w.rowIs s 3 1 (fun _ => .int .i64 c)) (hoN : off + n ≤ N) (hN : N ≤ 16777216) (ha : a < n) (hb : b < n) :
    Calls Try.prog 74 #[.slice (some ⟨g, off, none⟩) n cap, .int .i64 a, .int .i64 b, .pointer (some ⟨s, 0, none⟩)] w fun e w' => ∃ x y : Nat, e = .returned (.tuple #[.int .i64 x, .int .i64 y]) ∧ ((x = a ∧ y = b) ∨ (x = b ∧ y = a)) ∧ CS w w' s := by
  have hcw : ∀ t, t < n → w.cell? ⟨g, off + t, none⟩ = some (.int .u64 (R (off + t))) := fun t ht => hrow.cell (by omega)
  have hsc : w.cell? ⟨s, 0, none⟩ = some (.int .i64 c) := hs.cell (by decide)
  have hsf : w.frozen? ⟨s, 0, none⟩ = false := hs.frozen 0
  have HS := hid hs
  clear hrow hs
  go_enter Try.func74, Try.ntmps74
  go_wp2_with fail
  go_quiet (first | (go_at_call 61; refine Calls.quiet_of_same (less _ _ _)))
  go_wp2
  · go_ret2
    refine ⟨b, a, rfl, .inr ⟨rfl, rfl⟩, ⟨_, one_set HS.out _⟩, grown_set (dr_grown w nq _) _ _⟩
  · go_ret2
    exact ⟨a, b, rfl, .inl ⟨rfl, rfl⟩, ⟨c, HS.out⟩, ⟨rfl, rfl, rfl, Nat.le_refl _, fun _ _ _ => rfl⟩⟩

set_option maxHeartbeats 1000000 in
theorem median (w : World) (g N off n cap a b c s : Nat) (R : Nat → Int) (hrow : w.rowIs g 50 N (rowU R)) (hs : ∃ z : Int, w.rowIs s 3 1 (fun _ => .int .i64 z)) (hgs : g ≠ s) (hoN : off + n ≤ N) (hN : N ≤ 16777216) (ha : a < n) (hb : b < n) (hc : c < n) :
    Calls Try.prog 71 #[.slice (some ⟨g, off, none⟩) n cap, .int .i64 a, .int .i64 b, .int .i64 c, .pointer (some ⟨s, 0, none⟩)] w fun e w' => ∃ x : Nat, e = .returned (.int .i64 x) ∧ (x = a ∨ x = b ∨ x = c) ∧ CS w w' s := by
  obtain ⟨z, hz⟩ := hs
  have HR := hid hrow
  have HC := hid (order2 w g N off n cap a b s z R hrow hz hoN hN ha hb)
  clear hrow hz
  go_enter Try.func71, Try.ntmps71
  go_wp2_with fail
  refine HC.out.mono ?_
  rintro e w1 ⟨x, y, rfl, hxy, hcs⟩
  clear HC
  have HR1 := hid (hcs.row HR.out hgs)
  obtain ⟨z1, hz1⟩ := hcs.cnt
  have hx : x < n := by omega
  have hy : y < n := by omega
  have HC := hid (order2 w1 g N off n cap y c s z1 R HR1.out hz1 hoN hN hy hc)
  have HCS := hid hcs
  have HXY := hid hxy
  clear hcs hz1 hxy
  go_wp2_with fail
  refine HC.out.mono ?_
  rintro e w2 ⟨x2, y2, rfl, hxy2, hcs2⟩
  clear HC
  have HR2 := hid (hcs2.row HR1.out hgs)
  obtain ⟨z2, hz2⟩ := hcs2.cnt
  have hx2 : x2 < n := by omega
  have HC := hid (order2 w2 g N off n cap x x2 s z2 R HR2.out hz2 hoN hN hx hx2)
  have HCS2 := hid (HCS.out.trans hcs2)
  have HXY2 := hid hxy2
  clear hcs2 hz2 hxy2
  go_wp2_with fail
  refine HC.out.mono ?_
  rintro e w3 ⟨x3, y3, rfl, hxy3, hcs3⟩
  clear HC
  have HCS3 := hid (HCS2.out.trans hcs3)
  have HXY3 := hid hxy3
  clear hcs3 hxy3
  go_wp2
  go_ret
  have h1 := HXY.out
  have h2 := HXY2.out
  have h3 := HXY3.out
  exact ⟨y3, rfl, by omega, HCS3.out⟩

set_option maxHeartbeats 1000000 in
theorem medianAdj (w : World) (g N off n cap a s : Nat) (R : Nat → Int) (hrow : w.rowIs g 50 N (rowU R)) (hs : ∃ z : Int, w.rowIs s 3 1 (fun _ => .int .i64 z)) (hgs : g ≠ s) (hoN : off + n ≤ N) (hN : N ≤ 16777216) (ha : 1 ≤ a) (hb : a + 1 < n) :
    Calls Try.prog 70 #[.slice (some ⟨g, off, none⟩) n cap, .int .i64 a, .pointer (some ⟨s, 0, none⟩)] w fun e w' => ∃ x : Nat, e = .returned (.int .i64 x) ∧ (a - 1 ≤ x ∧ x ≤ a + 1) ∧ CS w w' s := by
  have HC := hid (median w g N off n cap (a - 1) a (a + 1) s R hrow hs hgs hoN hN (by omega) (by omega) (by omega))
  clear hrow hs
  have e1 : ((a : Int) - 1) = ((a - 1 : Nat) : Int) := by omega
  have e2 : ((a : Int) + 1) = ((a + 1 : Nat) : Int) := by omega
  rw [← e1, ← e2] at HC
  clear e1 e2
  go_enter Try.func70, Try.ntmps70
  go_wp2_with fail
  refine HC.out.mono ?_
  rintro e w1 ⟨x, rfl, hx, hcs⟩
  have HX := hid hx
  have HCS := hid hcs
  clear HC hx hcs
  go_wp2
  go_ret
  have := HX.out
  exact ⟨x, rfl, by omega, HCS.out⟩

set_option maxHeartbeats 2000000 in
theorem choosePivot (w : World) (g N off n cap a b : Nat) (R : Nat → Int) (hrow : w.rowIs g 50 N (rowU R)) (hoN : off + n ≤ N) (hN : N ≤ 16777216) (hab : a + 8 ≤ b) (hb : b ≤ n) :
    Calls Try.prog 58 #[.slice (some ⟨g, off, none⟩) n cap, .int .i64 a, .int .i64 b] w fun e w' => ∃ (p : Nat) (h : Int), e = .returned (.tuple #[.int .i64 p, .int .i64 h]) ∧ a ≤ p ∧ p < b ∧ UR w w' g N R := by
  obtain ⟨l, hl⟩ : ∃ l, l = b - a := ⟨b - a, rfl⟩
  have hgl := hrow.lt
  have HR := hid hrow
  clear hrow
  go_enter Try.func58, Try.ntmps58
  have HR1 : Hid ((w.alloc (.cells #[.int .i64 0] 3)).rowIs g 50 N (rowU R)) := HR.out.alloc _
  have HS1 : Hid (∃ z : Int, (w.alloc (.cells #[.int .i64 0] 3)).rowIs w.heap.size 3 1 (fun _ => .int .i64 z)) := ⟨0, World.rowIs_alloc w #[.int .i64 0] 3 _ (fun i hi => by simp at hi; subst hi; rfl)⟩
  have HGR : Hid (w.grownBy (w.alloc (.cells #[.int .i64 0] 3)) none) := World.grownBy_alloc w _ none
  have hgs : g ≠ w.heap.size := by omega
  obtain ⟨i0, hi0⟩ : ∃ i0, i0 = a + l / 4 := ⟨_, rfl⟩
  obtain ⟨j0, hj0⟩ : ∃ j0, j0 = a + l / 4 * 2 := ⟨_, rfl⟩
  obtain ⟨k0, hk0⟩ : ∃ k0, k0 = a + l / 4 * 3 := ⟨_, rfl⟩
  have ei : ((a : Int) + ((b : Int) - (a : Int)) / 4) = (i0 : Int) := by omega
  have ej : ((a : Int) + ((b : Int) - (a : Int)) / 4 * 2) = (j0 : Int) := by omega
  have ek : ((a : Int) + ((b : Int) - (a : Int)) / 4 * 3) = (k0 : Int) := by omega
  have EI := hid ei
  have EJ := hid ej
  have EK := hid ek
  clear ei ej ek
  have END : Hid (∀ W : World, CS (w.alloc (.cells #[.int .i64 0] 3)) W w.heap.size → UR w W g N R) := fun W hW =>
    ⟨hW.row HR1.out hgs, grown_new (some g) HGR.out hW.gr (Nat.le_refl _)⟩
  by_cases h50 : 50 ≤ l
  · have hi1 : 1 ≤ i0 ∧ i0 + 1 < j0 := by omega
    have hj1 : 1 ≤ j0 ∧ j0 + 1 < k0 := by omega
    have hk1 : 1 ≤ k0 ∧ k0 + 1 < b := by omega
    have ha1 : a < i0 := by omega
    have HI1 := hid hi1
    have HJ1 := hid hj1
    have HK1 := hid hk1
    have HC := hid (medianAdj (w.alloc (.cells #[.int .i64 0] 3)) g N off n cap i0 w.heap.size R HR1.out HS1.out hgs hoN hN (by omega) (by omega))
    clear hi1 hj1 hk1 hi0 hj0 hk0
    go_wp2_with fail
    simp only [EI.out, EJ.out, EK.out]
    refine HC.out.mono ?_
    rintro e w2 ⟨i1, rfl, hx1, hcs⟩
    have HX1 := hid hx1
    have HCS := hid hcs
    clear HC hx1 hcs
    have HC := hid (medianAdj w2 g N off n cap j0 w.heap.size R (HCS.out.row HR1.out hgs) HCS.out.cnt hgs hoN hN (by have := HJ1.out; omega) (by have := HJ1.out; have := HK1.out; omega))
    go_wp2_with fail
    refine HC.out.mono ?_
    rintro e w3 ⟨j1, rfl, hx2, hcs⟩
    have HX2 := hid hx2
    have HCS2 := hid (HCS.out.trans hcs)
    clear HC hx2 hcs HCS
    have HC := hid (medianAdj w3 g N off n cap k0 w.heap.size R (HCS2.out.row HR1.out hgs) HCS2.out.cnt hgs hoN hN (by have := HK1.out; omega) (by have := HK1.out; omega))
    go_wp2_with fail
    refine HC.out.mono ?_
    rintro e w4 ⟨k1, rfl, hx3, hcs⟩
    have HX3 := hid hx3
    have HCS3 := hid (HCS2.out.trans hcs)
    clear HC hx3 hcs HCS2
    have hbd : a ≤ i1 ∧ a ≤ j1 ∧ a ≤ k1 ∧ i1 < b ∧ j1 < b ∧ k1 < b := by
      have := HX1.out; have := HX2.out; have := HX3.out; have := HI1.out; have := HJ1.out; have := HK1.out
      omega
    clear HX1 HX2 HX3 HI1 HJ1 HK1
    have HC := hid (median w4 g N off n cap i1 j1 k1 w.heap.size R (HCS3.out.row HR1.out hgs) HCS3.out.cnt hgs hoN hN (by omega) (by omega) (by omega))
    go_wp2_with fail
    refine HC.out.mono ?_
    rintro e w9 ⟨x, rfl, hx, hcs9⟩
    obtain ⟨z9, hz9⟩ := hcs9.cnt
    have hsc : w9.cell? ⟨w.heap.size, 0, none⟩ = some (.int .i64 z9) := hz9.cell (by decide)
    have hxa : a ≤ x := by omega
    have hxb : x < b := by omega
    have HUR : Hid (UR w w9 g N R) := END.out w9 (HCS3.out.trans hcs9)
    clear hz9 hcs9 hx HC
    have hdone : ∀ (p : Nat) (h : Int), p = x → ∃ (p' : Nat) (h' : Int), Ending.returned (.tuple #[.int .i64 (p : Int), .int .i64 h]) = .returned (.tuple #[.int .i64 (p' : Int), .int .i64 h']) ∧ a ≤ p' ∧ p' < b ∧ UR w w9 g N R := fun p h e => ⟨p, h, rfl, by omega, by omega, HUR.out⟩
    have HD := hid hdone
    clear hdone
    go_wp2
    all_goals go_ret2
    all_goals exact HD.out _ _ rfl
  · have HC := hid (median (w.alloc (.cells #[.int .i64 0] 3)) g N off n cap i0 j0 k0 w.heap.size R HR1.out HS1.out hgs hoN hN (by omega) (by omega) (by omega))
    have hbd : a ≤ i0 ∧ a ≤ j0 ∧ a ≤ k0 ∧ i0 < b ∧ j0 < b ∧ k0 < b := by omega
    clear hi0 hj0 hk0
    go_wp2_with fail
    simp only [EI.out, EJ.out, EK.out]
    refine HC.out.mono ?_
    rintro e w9 ⟨x, rfl, hx, hcs9⟩
    obtain ⟨z9, hz9⟩ := hcs9.cnt
    have hsc : w9.cell? ⟨w.heap.size, 0, none⟩ = some (.int .i64 z9) := hz9.cell (by decide)
    have hxa : a ≤ x := by omega
    have hxb : x < b := by omega
    have HUR : Hid (UR w w9 g N R) := END.out w9 (hcs9)
    clear hz9 hcs9 hx HC
    have hdone : ∀ (p : Nat) (h : Int), p = x → ∃ (p' : Nat) (h' : Int), Ending.returned (.tuple #[.int .i64 (p : Int), .int .i64 h]) = .returned (.tuple #[.int .i64 (p' : Int), .int .i64 h']) ∧ a ≤ p' ∧ p' < b ∧ UR w w9 g N R := fun p h e => ⟨p, h, rfl, by omega, by omega, HUR.out⟩
    have HD := hid hdone
    clear hdone
    go_wp2
    all_goals go_ret2
    all_goals exact HD.out _ _ rfl

end Go.Proofs.Qxb6608903a.U
