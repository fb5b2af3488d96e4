/-
  The bound's program zzBytes (22).
-/
import Derived.Test.Qxb6608903aBy
import Derived.Test.Qxb6608903aRl
namespace Go.Proofs.Qxb6608903a.Ix
open Go.RowKit Mem Go.Sort Plain
open CmpW
set_option linter.unusedVariables false

set_option maxHeartbeats 1000000 in
theorem bytes22 (w : World) (ta ca : Option Addr) (cap m ccap n : Nat) (str : Nat → ByteArray) (h : StAt w ta n str) : Calls Try.prog 22 #[.slice ta n cap, .slice ca m ccap] w fun e w' => Said w e w' := by
  have HTX : Hid (StAt w ta n str) := h
  clear h
  go_enter Try.func22, Try.ntmps22
  by_cases hT : n ≤ 1048576
  · go_wp2
    go_loopw [5, 6] (fun sv iv wr => ∃ s i q : Nat, i ≤ n ∧ iv = .int .i64 i ∧ s ≤ 1048576 ∧ sv = .int .i64 s ∧ wr = w.drewN q) (fun _ iv _ => n - (intOf iv).toNat)
    case atStart => exact ⟨n, 0, 0, Nat.zero_le _, rfl, hT, rfl, rfl⟩
    case round =>
      obtain ⟨s, i, q, hi, rfl, hs, rfl, rfl⟩ := hrel
      by_cases hlt : i < n
      · rcases HTX.out with e | ⟨b, off, rfl, htx⟩
        · rw [e] at hlt; exact absurd hlt (by simp)
        · have x2 : w.cell? ⟨b, off + i, none⟩ = some (.string (str i)) := htx _ hlt
          clear htx
          by_cases h1 : (str i).size ≤ 1048576
          · by_cases h2 : s + (str i).size ≤ 1048576
            · go_wp2
              exact ⟨⟨s + (str i).size, i + 1, q, by omega, by go_num, h2, by go_num, rfl⟩, by simp [intOf]; omega⟩
            · go_wp2
              go_ret
              exact ⟨false, q, rfl, rfl⟩
          · go_wp2
            go_ret
            exact ⟨false, q, rfl, rfl⟩
      · obtain rfl : i = n := by omega
        by_cases h1 : m ≤ 1048576
        · by_cases h2 : s + m ≤ 1048576
          · go_wp2
            go_ret
            exact ⟨true, q, rfl, rfl⟩
          · go_wp2
            go_ret
            exact ⟨false, q, rfl, rfl⟩
        · go_wp2
          go_ret
          exact ⟨false, q, rfl, rfl⟩
  · go_wp2
    go_ret
    exact ⟨false, 0, rfl, rfl⟩

end Go.Proofs.Qxb6608903a.Ix
