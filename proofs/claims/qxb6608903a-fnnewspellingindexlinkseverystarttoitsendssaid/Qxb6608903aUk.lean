/-
  slices.Sort (38) over a uint64.
-/
import Derived.Test.Qxb6608903aUj
namespace Go.Proofs.Qxb6608903a.U
open Go.RowKit Mem Go.Sort Go.Lib Go.Shelf
set_option linter.unusedVariables false

theorem len41 (n : Nat) (hn : n < 4611686018427387904) (w : World) : Calls Try.prog 41 #[.int .u64 (n : Int)] w fun e w' => e = .returned (.int .i64 (bitsLen n : Nat)) ∧ w' = w := by
  have h := Any.bits_Len (SlLaysF0.n15.bits (P := Try.prog) { sortN with }) (n : Int) w (by omega) (by omega)
  rw [Int.toNat_natCast, bitLen_eq _ (by omega)] at h
  exact h

set_option maxHeartbeats 1000000 in
theorem sortU (w : World) (g N off n cap : Nat) (R : Nat → Int) (hrow : w.rowIs g 50 N (rowU R)) (hoN : off + n ≤ N) (hN : N ≤ 16777216) :
    Calls Try.prog 38 #[.slice (some ⟨g, off, none⟩) n cap] w fun e w' => SD w g N off 0 n R e w' := by
  have hk : bitsLen n ≤ 62 := (bitsLen_le_iff n 62).2 (by omega)
  have HL := hid (fun w => len41 n (by omega) w)
  generalize bitsLen n = lim at hk HL
  have HC := hid (pdq n w g N off n cap 0 n lim R hrow hoN hN (Nat.zero_le _) (Nat.le_refl _) (by omega) (by omega) (fun x h0 => by omega))
  clear hrow
  go_enter Try.func38, Try.ntmps38
  go_wp2_with fail
  refine (HL.out _).mono ?_
  rintro e w1 ⟨rfl, rfl⟩
  clear HL
  go_wp2_with fail
  refine HC.out.mono ?_
  rintro e w2 ⟨rfl, R2, h1, h2, h3⟩
  have HF : Hid (SD w1 g N off 0 n R (.returned (.tuple #[])) w2) := ⟨rfl, R2, h1, h2, h3⟩
  clear h1 h2 h3 HC
  go_wp2
  go_end0
  exact HF.out

set_option maxHeartbeats 1000000 in
theorem ins0 (w : World) (A : Option Addr) (cap : Nat) : Calls Try.prog 55 #[.slice A 0 cap, .int .i64 0, .int .i64 0] w fun e w' => e = .returned (.tuple #[]) ∧ w' = w := by
  go_enter Try.func55, Try.ntmps55
  go_wp2
  go_loopw [6] (fun vi wr => vi = .int .i64 1 ∧ wr = w) (fun _ _ => 0)
  case atStart => exact ⟨rfl, rfl⟩
  case round =>
    obtain ⟨rfl, rfl⟩ := hrel
    go_wp2
    go_end0
    exact ⟨rfl, rfl⟩

set_option maxHeartbeats 1000000 in
theorem pdq0 (w : World) (A : Option Addr) (cap lim : Nat) : Calls Try.prog 44 #[.slice A 0 cap, .int .i64 0, .int .i64 0, .int .i64 lim] w fun e w' => e = .returned (.tuple #[]) ∧ w' = w := by
  have HC := hid (ins0 w A cap)
  go_enter Try.func44, Try.ntmps44
  go_wp2
  go_loopw [1, 2] (fun va vb wr => va = .int .i64 0 ∧ vb = .int .i64 0 ∧ wr = w) (fun _ _ _ => 0)
  case atStart => exact ⟨rfl, rfl, rfl⟩
  case round =>
    obtain ⟨rfl, rfl, rfl⟩ := hrel
    go_wp2_with fail
    refine HC.out.mono ?_
    rintro e w2 ⟨rfl, rfl⟩
    go_wp2
    (try simp only [Exit.inBlock, Exit.then]); refine bodyPost_ret (results_none rfl _ _ _) rfl ?_
    exact ⟨rfl, rfl⟩

set_option maxHeartbeats 1000000 in
/-- At an empty slice, wherever it points. -/
theorem sort0 (w : World) (A : Option Addr) (cap : Nat) : Calls Try.prog 38 #[.slice A 0 cap] w fun e w' => e = .returned (.tuple #[]) ∧ w' = w := by
  have HL := hid (fun w => len41 0 (by omega) w)
  generalize bitsLen 0 = lim at HL
  have HC := hid (pdq0 w A cap lim)
  go_enter Try.func38, Try.ntmps38
  go_wp2_with fail
  refine (HL.out _).mono ?_
  rintro e w1 ⟨rfl, rfl⟩
  clear HL
  go_wp2_with fail
  refine HC.out.mono ?_
  rintro e w2 ⟨rfl, rfl⟩
  go_wp2
  go_end0
  exact ⟨rfl, rfl⟩

end Go.Proofs.Qxb6608903a.U
