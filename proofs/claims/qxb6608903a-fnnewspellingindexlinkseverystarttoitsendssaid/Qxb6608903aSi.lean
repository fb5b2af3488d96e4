/-
  zzSortIdx (25): the merge sort of indexes, over whatever 'cmp'.
-/
import Derived.Test.Qxb6608903aRows
import Derived.Test.Qxb6608903aPe
import Derived.Test.Qxb6608903aRowK
import Derived.WalkKit
import Derived.Deep.QuietTactic
import Derived.BigQuiet
import Derived.Shelf.SlSortCmp.QuietGrown
import Derived.Deep.DeepCutAuto
namespace Go.Proofs.Qxb6608903a.SortW
open Go.RowKit Plain Mem Go.Sort
set_option linter.unusedVariables false

theorem hid {p : Prop} (h : p) : Hid p := h

theorem info3 : (Try.prog.info? 3).map (fun i => (i.zero, i.size, i.bytes)) = some (some (.int .i64 0), 1, 8) := by kernel_rfl

/-- What the sort asks of 'cmp' (30): in every world that grew out of w0 it hands back cf, draws, and lays blocks at most. -/
def CmpOK (o : Value) (n : Nat) (cf : Nat → Nat → Int) (w0 : World) : Prop :=
  ∀ W, Below w0.heap.size w0 W → ∀ a b : Nat, a < n → b < n → Calls Try.prog 30 #[o, .int .i64 (a : Nat), .int .i64 (b : Nat)] W fun e w' => e = .returned (.int .i64 (cf a b)) ∧ ∃ q os, w' = grow (W.drewN q) os

/-- A row of indexes. -/
def rowF (I : Nat → Nat) (j : Nat) : Value := .int .i64 (I j : Nat)

theorem grow_block {w : World} {n : Nat} {os : Array Obj} {k : Nat} (h : k < w.heap.size) : (grow (w.drewN n) os).heap[k]? = w.heap[k]? := by
  show (w.heap ++ os)[k]? = _
  rw [Array.getElem?_append_left h]

theorem grow_below {w w1 : World} {B : Nat} (h : Below B w w1) (hB : B ≤ w1.heap.size) (n : Nat) (os : Array Obj) : Below B w (grow (w1.drewN n) os) :=
  ⟨h.os, h.tape, h.output, by rw [size_grow]; exact Nat.le_trans h.size (Nat.le_add_right _ _), fun k hk => by rw [grow_block (by omega)]; exact h.block k hk⟩

/-- What stands in the sort: the two rows. -/
structure Two (w0 w : World) (n gi gb : Nat) (I F : Nat → Nat) : Prop where
  ri : w.rowIs gi 3 n (rowF I)
  rb : w.rowIs gb 3 n (rowF F)
  ne : gi ≠ gb
  bi : w0.heap.size ≤ gi
  bb : w0.heap.size ≤ gb
  bel : Below w0.heap.size w0 w

theorem Two.grow {w0 w : World} {n gi gb : Nat} {I F : Nat → Nat} (h : Two w0 w n gi gb I F) (q : Nat) (os : Array Obj) : Two w0 (grow (w.drewN q) os) n gi gb I F :=
  ⟨h.ri.of_block (grow_block h.ri.lt), h.rb.of_block (grow_block h.rb.lt), h.ne, h.bi, h.bb, grow_below h.bel h.bel.size q os⟩

theorem Two.put {w0 w : World} {n gi gb : Nat} {I F : Nat → Nat} (h : Two w0 w n gi gb I F) (k x : Nat) : Two w0 (w.setCell ⟨gb, k, none⟩ (.int .i64 (x : Nat))) n gi gb I (put F k x) :=
  ⟨h.ri.setOther h.ne _, (h.rb.set k _).congr (fun j hj => by unfold rowF Plain.put; by_cases e : j = k <;> simp [e]), h.ne, h.bi, h.bb, h.bel.setCell h.bb _⟩

theorem Two.swap {w0 w : World} {n gi gb : Nat} {I F : Nat → Nat} (h : Two w0 w n gi gb I F) : Two w0 w n gb gi F I := ⟨h.rb, h.ri, Ne.symm h.ne, h.bb, h.bi, h.bel⟩

set_option maxHeartbeats 4000000 in
set_option maxRecDepth 100000 in
theorem sortIdx (o : Value) (n : Nat) (cf : Nat → Nat → Int) (w : World) (hn : n ≤ 16777216) (hcmp : CmpOK o n cf w)
    (htr : ∀ a b c, a < n → b < n → c < n → cf a b ≤ 0 → cf b c ≤ 0 → cf a c ≤ 0) (has : ∀ a b, a < n → b < n → 0 ≤ cf a b → cf b a ≤ 0) :
    Calls Try.prog 25 #[o, .int .i64 (n : Nat)] w fun e w' => ∃ (g : Nat) (I : Nat → Nat), e = .returned (.slice (some ⟨g, 0, none⟩) n n) ∧ w'.rowIs g 3 n (rowF I) ∧ (seg I 0 n).Perm (List.range n) ∧ (∀ p q, p < q → q < n → cf (I p) (I q) ≤ 0) ∧ w.heap.size ≤ g ∧ Below w.heap.size w w' := by
  have HCMP := hid hcmp
  have HTR := hid htr
  have HAS := hid has
  clear hcmp htr has
  have hmk := run_make_row' (P := Try.prog) 36 3 (.int .i64 0) 8 Try.underlying36 info3 rfl .i64 .i64 n (by omega) (by omega)
  go_enter Try.func25, Try.ntmps25
  go_wp2
  go_loopw [6] (fun iv wr => ∃ k : Nat, k ≤ n ∧ iv = .int .i64 k ∧ wr.rowIs w.heap.size 3 n (rowF fun j => if j < k then j else 0) ∧ Below w.heap.size w wr)
    (fun iv _ => n - (intOf iv).toNat)
  case atStart => exact ⟨0, Nat.zero_le _, rfl, (World.rowIs_made w (.int .i64 0) n 3).congr (fun i hi => by simp [rowF]), (Below.refl _ _).alloc (Nat.le_refl _) _⟩
  case round =>
    obtain ⟨k, hk, rfl, hrow, hbel⟩ := hrel
    by_cases hlt : k < n
    · have hown : wr.cell? ⟨w.heap.size, k, none⟩ = some (.int .i64 0) := by simpa [rowF] using hrow.cell hlt
      have hfrz : wr.frozen? ⟨w.heap.size, k, none⟩ = false := hrow.frozen k
      have HROW := hid hrow
      clear hrow
      go_wp2
      refine ⟨⟨k + 1, by omega, by go_num, (HROW.out.set k (.int .i64 k)).congr fun i hi => ?_, hbel.setCell (Nat.le_refl _) _⟩, by simp [intOf]; omega⟩
      unfold rowF
      dsimp only
      split
      · subst i; rw [if_pos (by omega)]
      · by_cases h : i < k
        · rw [if_pos h, if_pos (by omega)]
        · rw [if_neg h, if_neg (by omega)]
    · obtain rfl : k = n := by omega
      have hrow' : wr.rowIs w.heap.size 3 k (rowF fun j => j) := hrow.congr fun i hi => by unfold rowF; dsimp only; rw [if_pos hi]
      have HROW := hid hrow'
      have hlt1 := hrow.lt
      clear hrow hrow'
      go_wp2
      have hT0 : Two w (wr.alloc (.cells (madeCells #[.int .i64 0] k) 3)) k w.heap.size wr.heap.size (fun j => j) (fun _ => 0) :=
        ⟨HROW.out.alloc _, (World.rowIs_made wr (.int .i64 0) k 3).congr (fun i hi => rfl), by omega, Nat.le_refl _, hbel.size, hbel.alloc hbel.size _⟩
      have HT0 := hid hT0
      generalize wr.alloc (.cells (madeCells #[.int .i64 0] k) 3) = w2 at HT0 ⊢
      clear hT0 HROW hmk
      generalize wr.heap.size = gb0 at *
      go_loopw [5, 7, 8] (fun iv bv wv wr => ∃ (W gi gb : Nat) (I F : Nat → Nat), 1 ≤ W ∧ W ≤ 33554432 ∧ iv = .slice (some ⟨gi, 0, none⟩) k k ∧ bv = .slice (some ⟨gb, 0, none⟩) k k ∧ wv = .int .i64 W ∧ Two w wr k gi gb I F ∧ (seg I 0 k).Perm (List.range k) ∧ Runs (fun a b => cf a b ≤ 0) I W k)
        (fun _ _ wv _ => k - (intOf wv).toNat)
      case atStart => exact ⟨1, _, _, _, _, Nat.le_refl _, by omega, rfl, rfl, rfl, HT0.out, by rw [seg_id], runs_one _ _ _⟩
      case round =>
        clear HT0
        obtain ⟨W, gi, gb, I, F, hW1, hW2, rfl, rfl, rfl, hT, hperm, hruns⟩ := hrel
        by_cases hWk : W < k
        · have HT := hid hT
          have HP := hid hperm
          have HRU := hid hruns
          clear hT hperm hruns
          have hW3 : W ≤ 16777216 := by omega
          go_wp2
          obtain ⟨w3, hw3⟩ : ∃ w3 : World, w3 = wr := ⟨wr, rfl⟩
          subst hw3
          go_loopw [9] (fun lv wr => ∃ (lo : Nat) (F : Nat → Nat), lo ≤ 67108864 ∧ lv = .int .i64 lo ∧ Two w wr k gi gb I F ∧ PS (fun a b => cf a b ≤ 0) I F k W lo)
            (fun lv _ => k - (intOf lv).toNat)
          case atStart => exact ⟨0, F, by omega, rfl, HT.out, PS.start _ _ _ _ _⟩
          case round =>
            clear HT
            obtain ⟨lo, F1, hlo67, rfl, hT, hps⟩ := hrel
            by_cases hlo : lo < k
            · have HT := hid hT
              have HPS := hid hps
              clear hT hps
              obtain ⟨mid, hmid⟩ : ∃ mid, mid = min (lo + W) k := ⟨_, rfl⟩
              obtain ⟨hi, hhi⟩ : ∃ hi, hi = min (mid + W) k := ⟨_, rfl⟩
              have hm1 : lo ≤ mid := by omega
              have hm2 : mid ≤ hi := by omega
              have hm3 : hi ≤ k := by omega
              have HMID := hid hmid
              have HHI := hid hhi
              have HR1 : Hid (∀ x y, lo ≤ x → x < y → y < mid → cf (I x) (I y) ≤ 0) := fun x y h1 h2 h3 => runs_low hW1 HRU.out HPS.out.dvd h1 h2 (by omega) (by omega)
              have HR2 : Hid (∀ x y, mid ≤ x → x < y → y < hi → cf (I x) (I y) ≤ 0) := fun x y h1 h2 h3 => by
                by_cases e : lo + W ≤ k
                · exact runs_high hW1 HRU.out HPS.out.dvd (by omega) h2 (by omega) (by omega)
                · omega
              clear hmid hhi
              go_upto_if 45 with fail
              go_cut [10] (fun m wx => m = .int .i64 mid ∧ wx = wr)
              case first =>
                have hmid := HMID.out
                by_cases hc1 : k < lo + W
                · have e : (k : Int) = mid := by omega
                  have E := hid e
                  clear hmid e
                  go_wp2
                  go_meet
                  case rel => exact ⟨by rw [E.out], rfl⟩
                · have e : (lo : Int) + W = mid := by omega
                  have E := hid e
                  clear hmid e
                  go_wp2
                  go_meet
                  case rel => exact ⟨by rw [← E.out], rfl⟩
              case rest =>
                obtain ⟨rfl, rfl⟩ := hcut
                go_upto_if 52 with fail
                go_cut [11] (fun m wx => m = .int .i64 hi ∧ wx = wc)
                case first =>
                  have hhi := HHI.out
                  by_cases hc1 : k < mid + W
                  · have e : (k : Int) = hi := by omega
                    have E := hid e
                    clear hhi e
                    go_wp2
                    go_meet
                    case rel => exact ⟨by rw [E.out], rfl⟩
                  · have e : (mid : Int) + W = hi := by omega
                    have E := hid e
                    clear hhi e
                    go_wp2
                    go_meet
                    case rel => exact ⟨by rw [← E.out], rfl⟩
                case rest =>
                  obtain ⟨rfl, rfl⟩ := hcut
                  go_wp2
                  have HMS : Hid (MS (fun a b => cf a b ≤ 0) I F1 lo mid hi lo mid lo) := MS.start _ _ _ hm1 hm2
                  go_loopw [12, 13, 14] (fun iv jv kv wr => ∃ (i j x : Nat) (F2 : Nat → Nat), iv = .int .i64 i ∧ jv = .int .i64 j ∧ kv = .int .i64 x ∧ MS (fun a b => cf a b ≤ 0) I F2 lo mid hi i j x ∧ Two w wr k gi gb I F2 ∧ ∀ p, p < lo → F2 p = F1 p)
                    (fun iv jv _ _ => (mid - (intOf iv).toNat) + (hi - (intOf jv).toNat))
                  case atStart => exact ⟨lo, mid, lo, F1, rfl, rfl, rfl, HMS.out, HT.out, fun _ _ => rfl⟩
                  case round =>
                    clear HT HMS
                    obtain ⟨i, j, x, F2, rfl, rfl, rfl, hms, hT, hsame⟩ := hrel
                    have HMS := hid hms
                    have HT := hid hT
                    have HSAME := hid hsame
                    have hx : x + mid = i + j := hms.hk
                    have b1 := hms.a1
                    have b2 := hms.a2
                    have b3 := hms.a3
                    have b4 := hms.a4
                    have hxk : x ≤ hi := by omega
                    have HX := hid hx
                    clear hms hT hsame hx
                    by_cases hi1 : i < mid
                    · by_cases hj1 : j < hi
                      · have hci : wr.cell? ⟨gi, i, none⟩ = some (.int .i64 (I i : Nat)) := HT.out.ri.cell (by omega)
                        have hcj : wr.cell? ⟨gi, j, none⟩ = some (.int .i64 (I j : Nat)) := HT.out.ri.cell (by omega)
                        have hgl : gi < wr.heap.size := HT.out.ri.lt
                        have hci' := fun n os => cell_grown (w := wr) (a := ⟨gi, i, none⟩) hgl hci n os
                        have hcj' := fun n os => cell_grown (w := wr) (a := ⟨gi, j, none⟩) hgl hcj n os
                        have hj2 : (0 : Int) ≤ (j : Int) := Int.natCast_nonneg _
                        have hj3 : (j : Int) < (k : Int) := by omega
                        have hi2 : (0 : Int) ≤ (i : Int) := Int.natCast_nonneg _
                        have hi3 : (i : Int) < (k : Int) := by omega
                        have hj4 : j < k := by omega
                        have hi4 : i < k := by omega
                        have mixed : Try.prog.follows .mixedOrders = true := by kernel_rfl
                        have hIi : I i < k := seg_range_lt HP.out (by omega)
                        have hIj : I j < k := seg_range_lt HP.out (by omega)
                        have HC := hid (fun n os => HCMP.out (grow (wr.drewN n) os) (grow_below HT.out.bel HT.out.bel.size n os) (I j) (I i) hIj hIi)
                        by_cases hcf : cf (I j) (I i) < 0
                        · have HM2 : Hid (MS (fun a b => cf a b ≤ 0) I (put F2 x (I j)) lo mid hi i (j + 1) (x + 1)) := HMS.out.takeJ hj1 (fun y h1 h2 => HR2.out j y b3 h1 h2) (fun y h1 h2 => by
                            by_cases e : y = i
                            · rw [e]; exact Int.le_of_lt hcf
                            · exact HTR.out (I j) (I i) (I y) hIj hIi (seg_range_lt HP.out (by omega)) (Int.le_of_lt hcf) (HR1.out i y b1 (by omega) h2))
                          go_wp2
                          go_quiet_grown ((go_at_call 30; exact Calls.grown_of (HC.out _ _)))
                          dsimp only
                          have HT2 := hid (HT.out.grow nq osq)
                          clear hci' hcj' hci hcj HC
                          generalize grow (wr.drewN nq) osq = w9 at HT2 ⊢
                          have hcj : w9.cell? ⟨gi, j, none⟩ = some (.int .i64 (I j : Nat)) := HT2.out.ri.cell (by omega)
                          have hst : w9.cell? ⟨gb, x, none⟩ = some (.int .i64 (F2 x : Nat)) := HT2.out.rb.cell (by have := HX.out; omega)
                          have hfz : w9.frozen? ⟨gb, x, none⟩ = false := HT2.out.rb.frozen x
                          have hxk2 : x < k := by have := HX.out; omega
                          go_wp2
                          exact ⟨⟨i, j + 1, x + 1, put F2 x (I j), rfl, by go_num, by go_num, HM2.out, HT2.out.put x (I j), fun p hp => by rw [put_other F2 (by have := HX.out; omega)]; exact HSAME.out p hp⟩, by simp [intOf]; omega⟩
                        · have hle : cf (I i) (I j) ≤ 0 := HAS.out (I j) (I i) hIj hIi (by omega)
                          have HM2 : Hid (MS (fun a b => cf a b ≤ 0) I (put F2 x (I i)) lo mid hi (i + 1) j (x + 1)) := HMS.out.takeI hi1 (fun y h1 h2 => HR1.out i y b1 h1 h2) (fun y h1 h2 => by
                            by_cases e : y = j
                            · rw [e]; exact hle
                            · exact HTR.out (I i) (I j) (I y) hIi hIj (seg_range_lt HP.out (by omega)) hle (HR2.out j y b3 (by omega) h2))
                          clear hle
                          go_wp2
                          go_quiet_grown ((go_at_call 30; exact Calls.grown_of (HC.out _ _)))
                          dsimp only
                          have HT2 := hid (HT.out.grow nq osq)
                          clear hci' hcj' hci hcj HC
                          generalize grow (wr.drewN nq) osq = w9 at HT2 ⊢
                          have hci : w9.cell? ⟨gi, i, none⟩ = some (.int .i64 (I i : Nat)) := HT2.out.ri.cell (by omega)
                          have hst : w9.cell? ⟨gb, x, none⟩ = some (.int .i64 (F2 x : Nat)) := HT2.out.rb.cell (by have := HX.out; omega)
                          have hfz : w9.frozen? ⟨gb, x, none⟩ = false := HT2.out.rb.frozen x
                          have hxk2 : x < k := by have := HX.out; omega
                          go_wp2
                          exact ⟨⟨i + 1, j, x + 1, put F2 x (I i), by go_num, rfl, by go_num, HM2.out, HT2.out.put x (I i), fun p hp => by rw [put_other F2 (by have := HX.out; omega)]; exact HSAME.out p hp⟩, by simp [intOf]; omega⟩
                      · have HLAST : Hid (i < mid → j = hi) := fun _ => by omega
                        go_wp2
                        go_loopw [12, 14] (fun iv kv wr => ∃ (i x : Nat) (F2 : Nat → Nat), iv = .int .i64 i ∧ kv = .int .i64 x ∧ MS (fun a b => cf a b ≤ 0) I F2 lo mid hi i j x ∧ (i < mid → j = hi) ∧ Two w wr k gi gb I F2 ∧ ∀ p, p < lo → F2 p = F1 p)
                          (fun iv _ _ => mid - (intOf iv).toNat)
                        case atStart => exact ⟨i, x, F2, rfl, rfl, HMS.out, HLAST.out, HT.out, HSAME.out⟩
                        case round =>
                          clear HMS HT HSAME HLAST HX
                          obtain ⟨i5, x5, F5, rfl, rfl, hms, hlast, hT, hsame⟩ := hrel
                          have HMS := hid hms
                          have HT := hid hT
                          have HSAME := hid hsame
                          have HLAST := hid hlast
                          have HX := hid hms.hk
                          have c1 := hms.a1
                          have c2 := hms.a2
                          have c4 := hms.a4
                          clear hms hT hsame hlast
                          by_cases hi5 : i5 < mid
                          · have hjh := HLAST.out hi5
                            have HM2 : Hid (MS (fun a b => cf a b ≤ 0) I (put F5 x5 (I i5)) lo mid hi (i5 + 1) j (x5 + 1)) := HMS.out.takeI hi5 (fun y h1 h2 => HR1.out i5 y c1 h1 h2) (fun y h1 h2 => by omega)
                            have HJH := hid hjh
                            have hci : wr.cell? ⟨gi, i5, none⟩ = some (.int .i64 (I i5 : Nat)) := HT.out.ri.cell (by omega)
                            have hst : wr.cell? ⟨gb, x5, none⟩ = some (.int .i64 (F5 x5 : Nat)) := HT.out.rb.cell (by have := HX.out; omega)
                            have hfz : wr.frozen? ⟨gb, x5, none⟩ = false := HT.out.rb.frozen x5
                            have hxk2 : x5 < k := by have := HX.out; omega
                            clear hjh
                            go_wp2
                            exact ⟨⟨i5 + 1, x5 + 1, put F5 x5 (I i5), by go_num, by go_num, HM2.out, fun _ => HJH.out, HT.out.put x5 (I i5), fun p hp => by rw [put_other F5 (by have := HX.out; have := HJH.out; omega)]; exact HSAME.out p hp⟩, by simp [intOf]; omega⟩
                          · go_wp2
                            go_loopw [13, 14] (fun jv kv wr => ∃ (j x : Nat) (F2 : Nat → Nat), jv = .int .i64 j ∧ kv = .int .i64 x ∧ MS (fun a b => cf a b ≤ 0) I F2 lo mid hi mid j x ∧ Two w wr k gi gb I F2 ∧ ∀ p, p < lo → F2 p = F1 p)
                              (fun jv _ _ => hi - (intOf jv).toNat)
                            case atStart =>
                              have e : i5 = mid := by omega
                              have hm := HMS.out
                              rw [e] at hm
                              exact ⟨j, x5, F5, rfl, rfl, hm, HT.out, HSAME.out⟩
                            case round =>
                              clear HMS HT HSAME HLAST HX
                              obtain ⟨j6, x6, F6, rfl, rfl, hms, hT, hsame⟩ := hrel
                              have HMS := hid hms
                              have HT := hid hT
                              have HSAME := hid hsame
                              have HX := hid hms.hk
                              have d3 := hms.a3
                              have d4 := hms.a4
                              clear hms hT hsame
                              by_cases hj6 : j6 < hi
                              · have HM2 : Hid (MS (fun a b => cf a b ≤ 0) I (put F6 x6 (I j6)) lo mid hi mid (j6 + 1) (x6 + 1)) := HMS.out.takeJ hj6 (fun y h1 h2 => HR2.out j6 y d3 h1 h2) (fun y h1 h2 => by omega)
                                have hci : wr.cell? ⟨gi, j6, none⟩ = some (.int .i64 (I j6 : Nat)) := HT.out.ri.cell (by omega)
                                have hst : wr.cell? ⟨gb, x6, none⟩ = some (.int .i64 (F6 x6 : Nat)) := HT.out.rb.cell (by have := HX.out; omega)
                                have hfz : wr.frozen? ⟨gb, x6, none⟩ = false := HT.out.rb.frozen x6
                                have hxk2 : x6 < k := by have := HX.out; omega
                                go_wp2
                                exact ⟨⟨j6 + 1, x6 + 1, put F6 x6 (I j6), by go_num, by go_num, HM2.out, HT.out.put x6 (I j6), fun p hp => by rw [put_other F6 (by have := HX.out; omega)]; exact HSAME.out p hp⟩, by simp [intOf]; omega⟩
                              · obtain rfl : j6 = hi := by omega
                                go_wp2
                                have hx6 : x6 = j6 := by have := HX.out; omega
                                have hfin := HMS.out
                                rw [hx6] at hfin
                                exact ⟨⟨lo + 2 * W, F6, by omega, by go_num, HT.out, HPS.out.step hW1 hlo HMID.out HHI.out hfin HSAME.out⟩, by simp [intOf]; omega⟩
                    · have HLAST : Hid (i < mid → j = hi) := fun _ => by omega
                      go_wp2
                      go_loopw [12, 14] (fun iv kv wr => ∃ (i x : Nat) (F2 : Nat → Nat), iv = .int .i64 i ∧ kv = .int .i64 x ∧ MS (fun a b => cf a b ≤ 0) I F2 lo mid hi i j x ∧ (i < mid → j = hi) ∧ Two w wr k gi gb I F2 ∧ ∀ p, p < lo → F2 p = F1 p)
                        (fun iv _ _ => mid - (intOf iv).toNat)
                      case atStart => exact ⟨i, x, F2, rfl, rfl, HMS.out, HLAST.out, HT.out, HSAME.out⟩
                      case round =>
                        clear HMS HT HSAME HLAST HX
                        obtain ⟨i5, x5, F5, rfl, rfl, hms, hlast, hT, hsame⟩ := hrel
                        have HMS := hid hms
                        have HT := hid hT
                        have HSAME := hid hsame
                        have HLAST := hid hlast
                        have HX := hid hms.hk
                        have c1 := hms.a1
                        have c2 := hms.a2
                        have c4 := hms.a4
                        clear hms hT hsame hlast
                        by_cases hi5 : i5 < mid
                        · have hjh := HLAST.out hi5
                          have HM2 : Hid (MS (fun a b => cf a b ≤ 0) I (put F5 x5 (I i5)) lo mid hi (i5 + 1) j (x5 + 1)) := HMS.out.takeI hi5 (fun y h1 h2 => HR1.out i5 y c1 h1 h2) (fun y h1 h2 => by omega)
                          have HJH := hid hjh
                          have hci : wr.cell? ⟨gi, i5, none⟩ = some (.int .i64 (I i5 : Nat)) := HT.out.ri.cell (by omega)
                          have hst : wr.cell? ⟨gb, x5, none⟩ = some (.int .i64 (F5 x5 : Nat)) := HT.out.rb.cell (by have := HX.out; omega)
                          have hfz : wr.frozen? ⟨gb, x5, none⟩ = false := HT.out.rb.frozen x5
                          have hxk2 : x5 < k := by have := HX.out; omega
                          clear hjh
                          go_wp2
                          exact ⟨⟨i5 + 1, x5 + 1, put F5 x5 (I i5), by go_num, by go_num, HM2.out, fun _ => HJH.out, HT.out.put x5 (I i5), fun p hp => by rw [put_other F5 (by have := HX.out; have := HJH.out; omega)]; exact HSAME.out p hp⟩, by simp [intOf]; omega⟩
                        · go_wp2
                          go_loopw [13, 14] (fun jv kv wr => ∃ (j x : Nat) (F2 : Nat → Nat), jv = .int .i64 j ∧ kv = .int .i64 x ∧ MS (fun a b => cf a b ≤ 0) I F2 lo mid hi mid j x ∧ Two w wr k gi gb I F2 ∧ ∀ p, p < lo → F2 p = F1 p)
                            (fun jv _ _ => hi - (intOf jv).toNat)
                          case atStart =>
                            have e : i5 = mid := by omega
                            have hm := HMS.out
                            rw [e] at hm
                            exact ⟨j, x5, F5, rfl, rfl, hm, HT.out, HSAME.out⟩
                          case round =>
                            clear HMS HT HSAME HLAST HX
                            obtain ⟨j6, x6, F6, rfl, rfl, hms, hT, hsame⟩ := hrel
                            have HMS := hid hms
                            have HT := hid hT
                            have HSAME := hid hsame
                            have HX := hid hms.hk
                            have d3 := hms.a3
                            have d4 := hms.a4
                            clear hms hT hsame
                            by_cases hj6 : j6 < hi
                            · have HM2 : Hid (MS (fun a b => cf a b ≤ 0) I (put F6 x6 (I j6)) lo mid hi mid (j6 + 1) (x6 + 1)) := HMS.out.takeJ hj6 (fun y h1 h2 => HR2.out j6 y d3 h1 h2) (fun y h1 h2 => by omega)
                              have hci : wr.cell? ⟨gi, j6, none⟩ = some (.int .i64 (I j6 : Nat)) := HT.out.ri.cell (by omega)
                              have hst : wr.cell? ⟨gb, x6, none⟩ = some (.int .i64 (F6 x6 : Nat)) := HT.out.rb.cell (by have := HX.out; omega)
                              have hfz : wr.frozen? ⟨gb, x6, none⟩ = false := HT.out.rb.frozen x6
                              have hxk2 : x6 < k := by have := HX.out; omega
                              go_wp2
                              exact ⟨⟨j6 + 1, x6 + 1, put F6 x6 (I j6), by go_num, by go_num, HM2.out, HT.out.put x6 (I j6), fun p hp => by rw [put_other F6 (by have := HX.out; omega)]; exact HSAME.out p hp⟩, by simp [intOf]; omega⟩
                            · obtain rfl : j6 = hi := by omega
                              go_wp2
                              have hx6 : x6 = j6 := by have := HX.out; omega
                              have hfin := HMS.out
                              rw [hx6] at hfin
                              exact ⟨⟨lo + 2 * W, F6, by omega, by go_num, HT.out, HPS.out.step hW1 hlo HMID.out HHI.out hfin HSAME.out⟩, by simp [intOf]; omega⟩
            · have HT := hid hT
              have HPS := hid hps
              clear hT hps
              go_wp2
              have hd := HPS.out.done (by omega)
              exact ⟨⟨W * 2, gb, gi, F1, I, by omega, by omega, rfl, rfl, by go_num, HT.out.swap, hd.1.trans HP.out, by rw [Nat.mul_comm]; exact hd.2⟩, by simp [intOf]; omega⟩
        · have HT := hid hT
          have HP := hid hperm
          have HRU := hid hruns
          clear hT hperm hruns
          go_wp2
          go_ret
          exact ⟨gi, I, rfl, HT.out.ri, HP.out, runs_all HRU.out (by omega), HT.out.bi, HT.out.bel⟩

end Go.Proofs.Qxb6608903a.SortW
