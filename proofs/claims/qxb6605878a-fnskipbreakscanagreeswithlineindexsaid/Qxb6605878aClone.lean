/-
  The contracts of zzCloneInts (11), zzLineIndexOK (10).
-/
import Derived.Test.Qxb6605878aLine
import Derived.Deep.OwnRows
import Derived.Deep.QuietTactic
import Derived.BigQuiet
import Derived.Lib.SliceRun
namespace Go.Proofs.Qxb6605878a.Line
open Go.RowKit
set_option linter.unusedVariables false

theorem info3 : (Try.prog.info? 3).map (fun i => (i.zero, i.size, i.bytes)) = some (some (.int .i64 0), 1, 8) := by kernel_rfl

theorem old_of {w : World} {a : Addr} {v : Value} (h : w.cell? a = some v) : a.block < w.heap.size := by
  by_cases hb : a.block < w.heap.size
  · exact hb
  · have : w.heap[a.block]? = none := by simp; omega
    simp [World.cell?, this] at h

def Cloned (w : World) (n : Nat) (f : Nat → Int) (e : Ending) (w' : World) : Prop :=
  ∃ (a : Option Addr) (cap : Nat), e = .returned (.slice a n cap) ∧ IntsAt w' a n f ∧ Below w.heap.size w w'

set_option maxHeartbeats 400000 in
theorem clone_any (b off n cap : Nat) (f : Nat → Int) (w : World) (hn : n ≤ 1048576)
    (hc : ∀ j, j < n → w.cell? ⟨b, off + j, none⟩ = some (.int .i64 (f j))) :
    Calls Try.prog 11 #[.slice (some ⟨b, off, none⟩) n cap] w fun e w' => Cloned w n f e w' := by
  have hmk := run_make_row' (P := Try.prog) 22 3 (.int .i64 0) 8 Try.underlying22 info3 rfl .i64 .i64 n (by omega) (by omega)
  have hnil := fun w : World => Lib.run_eql_slice_nil (P := Try.prog) w 22 3 (some ⟨b, off, none⟩) n cap 0 0 Try.underlying22
  go_enter Try.func11, Try.ntmps11
  go_wp2
  go_loopw [4] (fun i wr => ∃ k : Nat, k ≤ n ∧ i = .int .i64 k ∧ wr.rowIs w.heap.size 3 n (fun j => .int .i64 (if j < k then f j else 0)) ∧ Below w.heap.size w wr)
    (fun i _ => n - (intOf i).toNat)
  case atStart =>
    exact ⟨0, Nat.zero_le _, rfl, (World.rowIs_made w (.int .i64 0) n 3).congr (fun i hi => by simp), (Below.refl _ _).alloc (Nat.le_refl _) _⟩
  case round =>
    obtain ⟨k, hk, rfl, hrow, hbel⟩ := hrel
    by_cases hlt : k < n
    · have hcell : wr.cell? ⟨b, off + k, none⟩ = some (.int .i64 (f k)) := by
        rw [hbel.cell (old_of (hc k hlt))]; exact hc k hlt
      have hown : wr.cell? ⟨w.heap.size, k, none⟩ = some (.int .i64 0) := by simpa using hrow.cell hlt
      have hfrz : wr.frozen? ⟨w.heap.size, k, none⟩ = false := hrow.frozen k
      go_wp2
      refine ⟨⟨k + 1, by omega, by go_num, (hrow.set k (.int .i64 (f k))).congr fun i hi => ?_, hbel.setCell (Nat.le_refl _) _⟩, by simp [intOf]; omega⟩
      split
      · subst i; rw [if_pos (by omega)]
      · by_cases h : i < k
        · rw [if_pos h, if_pos (by omega)]
        · rw [if_neg h, if_neg (by omega)]
    · go_wp2
      go_ret
      refine ⟨some ⟨w.heap.size, 0, none⟩, n, rfl, .inr ⟨_, 0, rfl, fun j hj => ?_⟩, hbel⟩
      rw [Nat.zero_add, hrow.cell hj, if_pos (by omega)]

theorem clone_nil (n cap : Nat) (f : Nat → Int) (w : World) (hn : n = 0) :
    Calls Try.prog 11 #[.slice none n cap] w fun e w' => Cloned w n f e w' := by
  subst hn
  have hnil := fun w : World => Lib.run_eql_slice_nil (P := Try.prog) w 22 3 none 0 cap 0 0 Try.underlying22
  go_enter Try.func11, Try.ntmps11
  go_wp2
  go_ret
  exact ⟨none, 0, rfl, .inl rfl, Below.refl _ _⟩

theorem clone_empty (x : Addr) (cap : Nat) (f : Nat → Int) (w : World) :
    Calls Try.prog 11 #[.slice (some x) 0 cap] w fun e w' => Cloned w 0 f e w' := by
  have hmk := run_make_row' (P := Try.prog) 22 3 (.int .i64 0) 8 Try.underlying22 info3 rfl .i64 .i64 0 (by omega) (by omega)
  rw [show ((0 : Nat) : Int) = 0 from rfl] at hmk
  have hnil := fun w : World => Lib.run_eql_slice_nil (P := Try.prog) w 22 3 (some x) 0 cap 0 0 Try.underlying22
  go_enter Try.func11, Try.ntmps11
  go_wp2
  refine wp_loop_rounds 1 ?_
  rw [rounds_succ]
  go_wp2
  go_ret
  exact ⟨_, 0, rfl, .inl rfl, (Below.refl _ _).alloc (Nat.le_refl _) _⟩

theorem clone_all (a : Option Addr) (n cap : Nat) (f : Nat → Int) (w : World) (hn : n ≤ 1048576) (ha : a = none → n = 0) (hc : IntsAt w a n f) :
    Calls Try.prog 11 #[.slice a n cap] w fun e w' => Cloned w n f e w' := by
  rcases hc with rfl | ⟨b, off, rfl, hc⟩
  · cases a with
    | none => exact clone_nil 0 cap f w rfl
    | some x => exact clone_empty x cap f w
  · exact clone_any b off n cap f w hn hc

end Go.Proofs.Qxb6605878a.Line
