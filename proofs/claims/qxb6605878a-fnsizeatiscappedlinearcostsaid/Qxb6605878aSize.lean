/-
  The contracts of ZZnewYamlMeasure (25), sizeAt (31) and ZZsizeAt (24).
-/
import Derived.Test.Qxb6605878aRows
import Derived.WalkKit
import Derived.RowKit3
namespace Go.Proofs.Qxb6605878a.Size
open Go.RowKit
set_option linter.unusedVariables false

theorem grown_trans {a b c : World} (h : Grown a b) (k : Grown b c) : Grown a c :=
  ⟨World.keptBut_trans h.1 k.1, fun x => (k.2.1 x).trans (h.2.1 x), Nat.le_trans h.2.2 k.2.2⟩

theorem ret_int {k : IntKind} {a b : Int} (h : a = b) : Ending.returned (.int k a) = .returned (.int k b) := by rw [h]

/-- The plain function. -/
def sz (v s b : Int) : Int := if 1152921504606846976 ≤ s + v * b then 1152921504606846976 else s + v * b

theorem sz_big {v s b : Int} (hv : 0 < v) (hb : (1152921504606846976 - s) / v < b) : sz v s b = 1152921504606846976 := by
  unfold sz
  have := (Int.ediv_lt_iff_lt_mul hv).1 hb
  rw [if_pos (by rw [Int.mul_comm v b]; omega)]

theorem sz_small {v s b : Int} (hv : 0 < v) (hb : b ≤ (1152921504606846976 - s) / v) : sz v s b = s + v * b ∧ s + v * b ≤ 1152921504606846976 := by
  have h := (Int.le_ediv_iff_mul_le hv).1 hb
  rw [Int.mul_comm] at h
  unfold sz
  refine ⟨?_, by omega⟩
  split <;> omega

set_option maxHeartbeats 400000 in
theorem new_any (h v s : Int) (w : World) :
    Calls Try.prog 25 #[.int .i64 h, .int .i64 v, .int .i64 s] w fun e w' =>
      e = .returned (.agg #[.int .i64 h, .int .i64 v, .int .i64 s]) ∧ ∃ c : Array Value, w' = w.alloc (.cells c 51) := by
  go_enter Try.func25, Try.ntmps25
  go_wp2
  exact bodyPost_ret (v := .agg #[.int .i64 h, .int .i64 v, .int .i64 s]) (by simp [results, Try.results25, go_sem]) rfl ⟨rfl, _, rfl⟩

set_option maxHeartbeats 400000 in
theorem sizeAt_any (h v s b : Int) (w : World) (hv : 0 ≤ v) (hv' : v ≤ 1152921504606846976) (hs : 0 ≤ s) (hs' : s ≤ 1152921504606846976) (hb : 0 ≤ b) (hb' : b ≤ 9223372036854775807) :
    Calls Try.prog 31 #[.agg #[.int .i64 h, .int .i64 v, .int .i64 s], .int .i64 b] w fun e w' =>
      e = .returned (.int .i64 (sz v s b)) ∧ ∃ c : Array Value, w' = w.alloc (.cells c 51) := by
  by_cases hz : 0 < v
  · by_cases hc : (1152921504606846976 - s) / v < b
    · have H : Hid (sz v s b = 1152921504606846976) := sz_big hz hc
      go_enter Try.func31, Try.ntmps31
      go_wp2
      go_ret
      exact ⟨ret_int H.out.symm, _, rfl⟩
    · have H : Hid (wrap64 (s + wrap64 (v * b)) = sz v s b) := by
        obtain ⟨h1, h2⟩ := sz_small hz (by omega : b ≤ (1152921504606846976 - s) / v)
        have h3 : 0 ≤ v * b := Int.mul_nonneg hv hb
        unfold Hid; rw [Go.IntWalk.wrap64_in (v * b) (by omega), Go.IntWalk.wrap64_in _ (by omega), h1]
      go_enter Try.func31, Try.ntmps31
      go_wp2
      go_ret
      exact ⟨ret_int H.out, _, rfl⟩
  · have H : Hid (wrap64 (s + wrap64 (v * b)) = sz v s b) := by
      obtain rfl : v = 0 := by omega
      unfold Hid sz
      rw [Int.zero_mul, Go.IntWalk.wrap64_in 0 (by omega), Int.add_zero, Go.IntWalk.wrap64_in _ (by omega)]
      split <;> omega
    go_enter Try.func31, Try.ntmps31
    go_wp2
    go_ret
    exact ⟨ret_int H.out, _, rfl⟩

set_option maxHeartbeats 400000 in
theorem zzSizeAt_any (h v s b : Int) (w : World) (hv : 0 ≤ v) (hv' : v ≤ 1152921504606846976) (hs : 0 ≤ s) (hs' : s ≤ 1152921504606846976) (hb : 0 ≤ b) (hb' : b ≤ 9223372036854775807) :
    Calls Try.prog 24 #[.agg #[.int .i64 h, .int .i64 v, .int .i64 s], .int .i64 b] w fun e w' =>
      e = .returned (.int .i64 (sz v s b)) ∧ ∃ c c' : Array Value, w' = (w.alloc (.cells c 51)).alloc (.cells c' 51) := by
  go_enter Try.func24, Try.ntmps24
  go_wp2_with (go_at_call 31; refine (sizeAt_any _ _ _ _ _ hv hv' hs hs' hb hb').mono ?_; rintro e w' ⟨rfl, c, rfl⟩)
  go_ret
  exact ⟨rfl, _, _, rfl⟩

theorem sz_le {v s b : Int} (hv : 0 ≤ v) (hs : 0 ≤ s) (hb : 0 ≤ b) : 0 ≤ sz v s b ∧ sz v s b ≤ 1152921504606846976 := by
  have h3 : 0 ≤ v * b := Int.mul_nonneg hv hb
  unfold sz; split <;> omega

theorem sz_split {v s f r : Int} (hv : 0 ≤ v) (hf : 0 ≤ f) (hr : 0 ≤ r) : sz v s (f + r) = sz v (sz v s f) r := by
  have h3 : 0 ≤ v * f := Int.mul_nonneg hv hf
  have h4 : 0 ≤ v * r := Int.mul_nonneg hv hr
  unfold sz
  rw [Int.mul_add]
  split <;> split <;> (try split) <;> omega

theorem sz_zero {v s : Int} (hs : s ≤ 1152921504606846976) : sz v s 0 = s := by
  unfold sz
  rw [Int.mul_zero]
  split <;> omega

end Go.Proofs.Qxb6605878a.Size
