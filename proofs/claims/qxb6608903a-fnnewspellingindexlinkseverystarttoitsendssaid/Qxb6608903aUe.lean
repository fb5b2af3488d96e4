/-
  reverseRangeOrdered (59), breakPatternsOrdered (57) over a uint64.
-/
import Derived.Test.Qxb6608903aUd
import Derived.Test.Qxb6608903aSrt
import Derived.Shelf.SlSortCmp.Xorshift
namespace Go.Proofs.Qxb6608903a.U
open Go.RowKit Mem Go.Sort Go.Lib
set_option linter.unusedVariables false

theorem next66 (rb X : Nat) (hX : X < 18446744073709551616) (w : World) (hc : w.cell? ⟨rb, 0, none⟩ = some (.int .u64 X)) (hf : w.frozen? ⟨rb, 0, none⟩ = false) :
    Calls Try.prog 66 #[.pointer (some ⟨rb, 0, none⟩)] w fun e w' => e = .returned (.int .u64 (xorNextN X : Nat)) ∧ w' = (w.setCell ⟨rb, 0, none⟩ (.int .u64 (xorNextN X : Nat))).drewN 3 :=
  AnyF.xorshift_Next { sortN with } rb 0 X hX w hc hf

theorem pow65 (n : Nat) (hn : n < 4611686018427387904) (w : World) : Calls Try.prog 65 #[.int .i64 n] w fun e w' => e = .returned (.int .u64 ((1 <<< bitsLen n : Nat) : Int)) ∧ w' = w :=
  AnyF.nextPowerOfTwo { sortN with } n hn w

set_option maxHeartbeats 2000000 in
theorem reverseRange (w : World) (g N off n cap a b : Nat) (R : Nat → Int) (hrow : w.rowIs g 50 N (rowU R)) (hoN : off + n ≤ N) (hN : N ≤ 16777216) (hab : a < b) (hb : b ≤ n) :
    Calls Try.prog 59 #[.slice (some ⟨g, off, none⟩) n cap, .int .i64 a, .int .i64 b] w fun e w' => e = .returned (.tuple #[]) ∧ ∃ R', UR w w' g N R' ∧ Sw (off + a) (off + b) R R' := by
  have HUR := hid (UR.start hrow)
  clear hrow
  go_enter Try.func59, Try.ntmps59
  go_wp2
  go_loopw [6, 7] (fun vi vj wr => ∃ (i j : Nat) (R1 : Nat → Int), vi = .int .i64 i ∧ vj = .int .i64 j ∧ a ≤ i ∧ i ≤ b ∧ j < b ∧ UR w wr g N R1 ∧ Sw (off + a) (off + b) R R1) (fun vi _ _ => b - (intOf vi).toNat)
  case atStart => exact ⟨a, b - 1, R, rfl, by congr 1; omega, by omega, by omega, by omega, HUR.out, .refl⟩
  case round =>
    clear HUR
    obtain ⟨i, j, R1, rfl, rfl, hai, hib, hjb, hur, hsw⟩ := hrel
    by_cases hij : i < j
    · have hcw : ∀ t, t < n → wr.cell? ⟨g, off + t, none⟩ = some (.int .u64 (R1 (off + t))) := fun t ht => hur.cell off t (by omega)
      have hfw : ∀ t, t < n → wr.frozen? ⟨g, off + t, none⟩ = false := fun t ht => hur.frozen _
      have HUR := hid hur
      have HSW := hid hsw
      clear hur hsw
      go_wp2
      go_region
      all_goals go_wp2
      refine ⟨⟨i + 1, j - 1, swp R1 (off + i) (off + j), by go_num, by congr 1; omega, by omega, by omega, by omega, (HUR.out.drewN 1).swap _ _, HSW.out.step (by omega) (by omega) (by omega) (by omega)⟩, by simp [intOf]; omega⟩
    · have HUR := hid hur
      have HSW := hid hsw
      clear hur hsw
      go_wp2
      go_end0
      exact ⟨rfl, R1, HUR.out, HSW.out⟩

set_option maxHeartbeats 4000000 in
theorem breakPatterns (w : World) (g N off n cap a b : Nat) (R : Nat → Int) (hrow : w.rowIs g 50 N (rowU R)) (hoN : off + n ≤ N) (hN : N ≤ 16777216) (hab : a + 8 ≤ b) (hb : b ≤ n) :
    Calls Try.prog 57 #[.slice (some ⟨g, off, none⟩) n cap, .int .i64 a, .int .i64 b] w fun e w' => e = .returned (.tuple #[]) ∧ ∃ R', UR w w' g N R' ∧ Sw (off + a) (off + b) R R' := by
  obtain ⟨l, hl⟩ : ∃ l, l = b - a := ⟨b - a, rfl⟩
  obtain ⟨M, hM⟩ : ∃ M : Nat, M = 1 <<< bitsLen l := ⟨_, rfl⟩
  have hM1 : 1 ≤ M := by rw [hM, Nat.one_shiftLeft]; exact Nat.two_pow_pos _
  have hM2 : M ≤ 2 * l := by rw [hM, Nat.one_shiftLeft]; exact two_pow_bitsLen_le (by omega)
  have HP := hid (fun w => pow65 l (by omega) w)
  rw [← hM] at HP
  clear hM
  have hgl := hrow.lt
  have hgs : g ≠ w.heap.size := by omega
  have em : ((b : Int) - (a : Int)) = (l : Int) := by omega
  have hl8 : 8 ≤ l := by omega
  have hlb : a + l ≤ b := by omega
  have HR := hid hrow
  clear hrow hl
  go_enter Try.func57, Try.ntmps57
  have HUR0 : Hid (UR w (w.alloc (.cells #[.int .u64 (l : Nat)] 110)) g N R) := ⟨HR.out.alloc _, World.grownBy_alloc w _ _⟩
  have HS0 : Hid ((w.alloc (.cells #[.int .u64 (l : Nat)] 110)).rowIs w.heap.size 110 1 (fun _ => .int .u64 (l : Nat))) := World.rowIs_alloc w #[.int .u64 (l : Nat)] 110 _ (fun i hi => by simp at hi; subst hi; rfl)
  go_wp2_with fail
  refine (HP.out _).mono ?_
  rintro e w1 ⟨rfl, rfl⟩
  clear HP HR
  generalize w.alloc (.cells #[.int .u64 (l : Nat)] 110) = w1 at HUR0 HS0 ⊢
  obtain ⟨i0, hi0⟩ : ∃ i0, i0 = a + l / 4 * 2 - 1 := ⟨_, rfl⟩
  have ei : ((a : Int) + (l : Int) / 4 * 2 - 1) = (i0 : Int) := by omega
  have ei2 : ((a : Int) + (l : Int) / 4 * 2 + 1) = (i0 : Int) + 2 := by omega
  have hi1 : a ≤ i0 := by omega
  have hi2 : i0 + 3 ≤ b := by omega
  clear hi0
  go_wp2
  go_loopw [9] (fun vi wr => ∃ (t X : Nat) (R1 : Nat → Int), vi = .int .i64 ((i0 + t : Nat) : Int) ∧ t ≤ 3 ∧ X < 18446744073709551616 ∧ UR w wr g N R1 ∧ Sw (off + a) (off + b) R R1 ∧ wr.rowIs w.heap.size 110 1 (fun _ => .int .u64 (X : Nat))) (fun vi _ => i0 + 3 - (intOf vi).toNat)
  case atStart => exact ⟨0, l, R, by rw [Nat.add_zero], by omega, by omega, HUR0.out, .refl, HS0.out⟩
  case round =>
    clear HUR0 HS0
    obtain ⟨t, X, R1, rfl, ht, hX, hur, hsw, hs⟩ := hrel
    obtain ⟨ii, hii⟩ : ∃ ii, ii = i0 + t := ⟨_, rfl⟩
    rw [← hii]
    by_cases ht3 : t < 3
    · obtain ⟨R', hR'⟩ : ∃ R' : Nat, R' = xorNextN X := ⟨_, rfl⟩
      have lR' : R' < 18446744073709551616 := by rw [hR']; exact xorNextN_lt X hX
      obtain ⟨O, hO⟩ : ∃ O : Nat, O = R' &&& (M - 1) := ⟨_, rfl⟩
      have lO : O ≤ M - 1 := by rw [hO]; exact Nat.and_le_right
      have eAnd : bits .and .u64 (R' : Int) ((M : Int) - 1) = (O : Int) := by
        rw [show ((M : Int) - 1) = ((M - 1 : Nat) : Int) by omega, bits_and_u64_nat _ _ lR' (by omega), hO]
      have HN := hid (next66 w.heap.size X hX wr (hs.cell (by decide)) (hs.frozen 0))
      rw [← hR'] at HN
      clear hR' hO
      have HUR2 : Hid (UR w ((wr.setCell ⟨w.heap.size, 0, none⟩ (.int .u64 (R' : Nat))).drewN 3) g N R1) :=
        ⟨(hur.row.setOther hgs _), hur.gr.os, hur.gr.tape, hur.gr.output, by simpa using hur.gr.size, fun k hk hne => (Below.heap_setCell wr _ _ _ (by dsimp only; omega)).trans (hur.gr.block k hk hne)⟩
      have HS2 : Hid (((wr.setCell ⟨w.heap.size, 0, none⟩ (.int .u64 (R' : Nat))).drewN 3).rowIs w.heap.size 110 1 (fun _ => .int .u64 (R' : Nat))) := one_set hs _
      have HSW := hid hsw
      have hile : (ii : Int) ≤ (i0 : Int) + 2 := by omega
      have HII := hid hii
      clear hur hs hsw hii
      go_wp2_with fail
      refine HN.out.mono ?_
      rintro e w2 ⟨rfl, rfl⟩
      clear HN
      generalize (wr.setCell ⟨w.heap.size, 0, none⟩ (.int .u64 (R' : Nat))).drewN 3 = w3 at HUR2 HS2 ⊢
      go_upto_if 43 with fail
      go_cut [10] (fun ov wx => ∃ o : Nat, ov = .int .i64 o ∧ o < l ∧ wx = w3)
      case first =>
        by_cases hLO : l ≤ O
        · have hLOz : (l : Int) ≤ (O : Int) := by omega
          go_wp2
          go_meet
          case rel => exact ⟨O - l, by congr 1; omega, by omega, rfl⟩
        · have hLOz : ¬ (l : Int) ≤ (O : Int) := by omega
          go_wp2
          go_meet
          case rel => exact ⟨O, rfl, by omega, rfl⟩
      case rest =>
        obtain ⟨o, rfl, ho, rfl⟩ := hcut
        clear eAnd
        have hcw : ∀ t, t < n → wc.cell? ⟨g, off + t, none⟩ = some (.int .u64 (R1 (off + t))) := fun t ht => HUR2.out.cell off t (by omega)
        have hfw : ∀ t, t < n → wc.frozen? ⟨g, off + t, none⟩ = false := fun t ht => HUR2.out.frozen _
        have hii1 : ii < b := by have := HII.out; omega
        have hii2 : a ≤ ii := by have := HII.out; omega
        go_wp2_with fail
        by_cases hk0 : ii = a + o
        · subst hk0
          go_region
          all_goals go_wp2
          exact ⟨⟨t + 1, R', swp R1 (off + (a + o)) (off + (a + o)), by have := HII.out; go_num, by omega, lR', (HUR2.out.drewN 1).swap _ _, HSW.out.step (by omega) (by omega) (by omega) (by omega), (HS2.out.setOther (Ne.symm hgs) _).setOther (Ne.symm hgs) _⟩, by have := HII.out; simp [intOf]; omega⟩
        · have hk1 : ¬ (off + ii = off + (a + o)) := by omega
          go_region
          all_goals go_wp2
          exact ⟨⟨t + 1, R', swp R1 (off + ii) (off + (a + o)), by rw [HII.out]; go_num, by omega, lR', (HUR2.out.drewN 1).swap _ _, HSW.out.step (by omega) (by omega) (by omega) (by omega), (HS2.out.setOther (Ne.symm hgs) _).setOther (Ne.symm hgs) _⟩, by have := HII.out; simp [intOf]; omega⟩
    · have hile : ¬ (ii : Int) ≤ (i0 : Int) + 2 := by omega
      have HUR := hid hur
      have HSW := hid hsw
      clear hur hs hsw hii
      go_wp2
      go_end0
      exact ⟨rfl, R1, HUR.out, HSW.out⟩

end Go.Proofs.Qxb6608903a.U
