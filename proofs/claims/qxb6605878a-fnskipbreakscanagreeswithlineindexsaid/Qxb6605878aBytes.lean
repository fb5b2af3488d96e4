/-
  The contracts of zzCloneBytes (17) and zzBytes (16).
-/
import Derived.Test.Qxb6605878aBrk
namespace Go.Proofs.Qxb6605878a.Brk
open Go.RowKit Line
set_option linter.unusedVariables false

theorem info5 : (Try.prog.info? 5).map (fun i => (i.zero, i.size, i.bytes)) = some (some (.int .u8 0), 1, 1) := by kernel_rfl

/-- A slice of n bytes, read in w: empty, or a row of cells. -/
def BytesAt (w : World) (a : Option Addr) (n : Nat) (f : Nat → Int) : Prop :=
  n = 0 ∨ ∃ b off, a = some ⟨b, off, none⟩ ∧ ∀ j, j < n → w.cell? ⟨b, off + j, none⟩ = some (.int .u8 (f j))

def ClonedB (w : World) (n : Nat) (f : Nat → Int) (e : Ending) (w' : World) : Prop :=
  ∃ (a : Option Addr) (cap : Nat), e = .returned (.slice a n cap) ∧ BytesAt w' a n f ∧ Below w.heap.size w w'

set_option maxHeartbeats 400000 in
theorem cloneB_any (b off n cap : Nat) (f : Nat → Int) (w : World) (hn : n ≤ 1048576)
    (hc : ∀ j, j < n → w.cell? ⟨b, off + j, none⟩ = some (.int .u8 (f j))) :
    Calls Try.prog 17 #[.slice (some ⟨b, off, none⟩) n cap] w fun e w' => ClonedB w n f e w' := by
  have hmk := run_make_row' (P := Try.prog) 29 5 (.int .u8 0) 1 Try.underlying29 info5 rfl .i64 .i64 n (by omega) (by omega)
  have hnil := fun w : World => Lib.run_eql_slice_nil (P := Try.prog) w 29 5 (some ⟨b, off, none⟩) n cap 0 0 Try.underlying29
  go_enter Try.func17, Try.ntmps17
  go_wp2
  go_loopw [4] (fun i wr => ∃ k : Nat, k ≤ n ∧ i = .int .i64 k ∧ wr.rowIs w.heap.size 5 n (fun j => .int .u8 (if j < k then f j else 0)) ∧ Below w.heap.size w wr)
    (fun i _ => n - (intOf i).toNat)
  case atStart =>
    exact ⟨0, Nat.zero_le _, rfl, (World.rowIs_made w (.int .u8 0) n 5).congr (fun i hi => by simp), (Below.refl _ _).alloc (Nat.le_refl _) _⟩
  case round =>
    obtain ⟨k, hk, rfl, hrow, hbel⟩ := hrel
    by_cases hlt : k < n
    · have hcell : wr.cell? ⟨b, off + k, none⟩ = some (.int .u8 (f k)) := by
        rw [hbel.cell (old_of (hc k hlt))]; exact hc k hlt
      have hown : wr.cell? ⟨w.heap.size, k, none⟩ = some (.int .u8 0) := by simpa using hrow.cell hlt
      have hfrz : wr.frozen? ⟨w.heap.size, k, none⟩ = false := hrow.frozen k
      go_wp2
      refine ⟨⟨k + 1, by omega, by go_num, (hrow.set k (.int .u8 (f k))).congr fun i hi => ?_, hbel.setCell (Nat.le_refl _) _⟩, by simp [intOf]; omega⟩
      split
      · subst i; rw [if_pos (by omega)]
      · by_cases h : i < k
        · rw [if_pos h, if_pos (by omega)]
        · rw [if_neg h, if_neg (by omega)]
    · go_wp2
      go_ret
      refine ⟨some ⟨w.heap.size, 0, none⟩, n, rfl, .inr ⟨_, 0, rfl, fun j hj => ?_⟩, hbel⟩
      rw [Nat.zero_add, hrow.cell hj, if_pos (by omega)]

theorem cloneB_nil (n cap : Nat) (f : Nat → Int) (w : World) (hn : n = 0) :
    Calls Try.prog 17 #[.slice none n cap] w fun e w' => ClonedB w n f e w' := by
  subst hn
  have hnil := fun w : World => Lib.run_eql_slice_nil (P := Try.prog) w 29 5 none 0 cap 0 0 Try.underlying29
  go_enter Try.func17, Try.ntmps17
  go_wp2
  go_ret
  exact ⟨none, 0, rfl, .inl rfl, Below.refl _ _⟩

theorem cloneB_empty (x : Addr) (cap : Nat) (f : Nat → Int) (w : World) :
    Calls Try.prog 17 #[.slice (some x) 0 cap] w fun e w' => ClonedB w 0 f e w' := by
  have hmk := run_make_row' (P := Try.prog) 29 5 (.int .u8 0) 1 Try.underlying29 info5 rfl .i64 .i64 0 (by omega) (by omega)
  rw [show ((0 : Nat) : Int) = 0 from rfl] at hmk
  have hnil := fun w : World => Lib.run_eql_slice_nil (P := Try.prog) w 29 5 (some x) 0 cap 0 0 Try.underlying29
  go_enter Try.func17, Try.ntmps17
  go_wp2
  refine wp_loop_rounds 1 ?_
  rw [rounds_succ]
  go_wp2
  go_ret
  exact ⟨_, 0, rfl, .inl rfl, (Below.refl _ _).alloc (Nat.le_refl _) _⟩

theorem cloneB_all (a : Option Addr) (n cap : Nat) (f : Nat → Int) (w : World) (hn : n ≤ 1048576) (ha : a = none → n = 0) (hc : BytesAt w a n f) :
    Calls Try.prog 17 #[.slice a n cap] w fun e w' => ClonedB w n f e w' := by
  rcases hc with rfl | ⟨b, off, rfl, hc⟩
  · cases a with
    | none => exact cloneB_nil 0 cap f w rfl
    | some x => exact cloneB_empty x cap f w
  · exact cloneB_any b off n cap f w hn hc

set_option maxHeartbeats 400000 in
theorem bytes16 (a : Option Addr) (n cap : Nat) (w : World) (hn : n ≤ maxLen) :
    Calls Try.prog 16 #[.slice a n cap] w fun e w' => e = .returned (.bool (decide (n ≤ 1048576))) ∧ w' = w := by
  unfold maxLen at hn
  by_cases h : n ≤ 1048576
  · have h' : (n : Int) ≤ 1048576 := by omega
    go_enter Try.func16, Try.ntmps16
    go_wp2
    go_ret
    exact ⟨by simp [h], rfl⟩
  · have h' : (1048576 : Int) < n := by omega
    go_enter Try.func16, Try.ntmps16
    go_wp2
    go_ret
    exact ⟨by simp [h], rfl⟩

end Go.Proofs.Qxb6605878a.Brk
