/-
  newSpellingLink (37).
-/
import Derived.Test.Qxb6608903aUa
namespace Go.Proofs.Qxb6608903a.Lk
open Go.RowKit Mem Go.Sort
set_option linter.unusedVariables false

/-- The key of a link. -/
def lkey (e : Nat) (ac : Bool) : Int := if ac = true then bits .or .u64 (e : Int) 2147483648 else (e : Int)

/-- A link: its key above, the choice below. -/
def lnk (e : Nat) (ac : Bool) (c : Int) : Int := bits .or .u64 (IntKind.u64.wrap (lkey e ac * 4294967296)) (IntKind.u64.wrap c)

theorem wrap_small (e : Nat) (he : e ≤ 2097153) : IntKind.u64.wrap ((e : Int) * 4294967296) = (e : Int) * 4294967296 := by
  rw [IntKind.wrap_u64]; omega

set_option maxHeartbeats 1000000 in
theorem link_any (w : World) (e : Nat) (he : e ≤ 2097153) (ac : Bool) (c : Int) : Calls Try.prog 37 #[.int .i32 (e : Nat), .bool ac, .int .i64 c] w fun r w' => r = .returned (.int .u64 (lnk e ac c)) ∧ w' = w := by
  cases ac
  · have e1 : lnk e false c = bits .or .u64 ((e : Int) * 4294967296) (IntKind.u64.wrap c) := by
      unfold lnk lkey; rw [if_neg (by simp), wrap_small e he]
    rw [e1]
    clear e1
    go_enter Try.func37, Try.ntmps37
    go_wp2
    go_ret
    exact ⟨rfl, rfl⟩
  · have e1 : lnk e true c = bits .or .u64 (IntKind.u64.wrap (bits .or .u64 (e : Int) 2147483648 * 4294967296)) (IntKind.u64.wrap c) := by
      unfold lnk lkey; rw [if_pos rfl]
    rw [e1]
    clear e1
    go_enter Try.func37, Try.ntmps37
    go_wp2
    go_ret
    exact ⟨rfl, rfl⟩

end Go.Proofs.Qxb6608903a.Lk
