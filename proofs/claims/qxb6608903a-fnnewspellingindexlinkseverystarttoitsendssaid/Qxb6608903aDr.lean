/-
  zzDistinctStarts (23): rows of pairs in memory.
-/
import Derived.Test.Qxb6608903aDq
import Derived.OwnWalk
import Derived.Deep.AppendLies
import Derived.Deep.DrawnRows
namespace Go.Proofs.Qxb6608903a.Ix
open Go.RowKit Mem Go.Sort Plain
open CmpW
open SortW hiding hid
set_option linter.unusedVariables false

theorem info73 : (Try.prog.info? 73).map (fun i => (i.zero, i.size, i.bytes)) = some (some (.agg #[.int .i64 0, .int .i64 0]), 2, 16) := by kernel_rfl
theorem info58 : (Try.prog.info? 58).map (fun i => (i.zero, i.size, i.bytes)) = some (some (.agg #[.int .i64 0, .int .u64 0]), 2, 16) := by kernel_rfl

/-- The cells of a row of pairs. -/
def pF (k2 : IntKind) (A : Nat → Nat) (B : Nat → Int) (c i : Nat) : Value := if i = 0 then .int .i64 (A c : Nat) else .int k2 (B c)

theorem pr_of {w : World} {e g cap n : Nat} {k2 : IntKind} {A : Nat → Nat} {B : Nat → Int} (h : OwnK w e 2 g cap n (pF k2 A B)) : PR w g n k2 A B := fun x hx => by
  have h0 := h.cell (c := x) (i := 0) hx (by decide)
  have h1 := h.cell (c := x) (i := 1) hx (by decide)
  exact ⟨h0, h1⟩

theorem pr_push {w : World} {base e g cap n : Nat} {k2 : IntKind} {A A' : Nat → Nat} {B B' : Nat → Int} {a : Nat} {b : Int}
    (h : w.ownsRow base e 2 (.slice (some ⟨g, 0, none⟩) (n + 1) cap) (n + 1) (Mem.flatK 2 (pF k2 A B) n ++ [.int .i64 (a : Nat), .int k2 b])) (hA : ∀ c, c < n → A' c = A c) (hB : ∀ c, c < n → B' c = B c) (hAn : A' n = a) (hBn : B' n = b) :
    OwnK w e 2 g cap (n + 1) (pF k2 A' B') ∧ base ≤ g :=
  own_snoc h (fun c i hc hi => by unfold pF; rw [hA c hc, hB c hc]) (fun i hi => by
    unfold pF
    match i, hi with
    | 0, _ => rw [hAn]; rfl
    | 1, _ => rw [hBn]; rfl)

theorem ownp_ge {g base : Nat} (h : base ≤ g) {n cap : Nat} : ∀ k, (Value.slice (some ⟨g, 0, none⟩) n cap).ownBlock = some k → base ≤ k := by
  intro k hk
  simp [Value.ownBlock] at hk
  omega

theorem make52 (n : Nat) (hn : n ≤ 1048576) (w : World) : (Instr.makeSlice 52 (.int .i64 0) (.int .i64 (n : Int))).run Try.prog w = .ok (.slice (some ⟨w.heap.size, 0, none⟩) 0 n) (w.alloc (.cells (madeCells #[.int .i64 0, .int .i64 0] (n * 2)) 73)) := by
  obtain ⟨i0, hi, hz0, hz1, hz2⟩ := info_parts info73
  have h := run_make (P := Try.prog) w 52 73 i0 _ Try.underlying52 hi hz0 .i64 .i64 0 n (by omega) (by omega) (by rw [hz2]; omega) (by omega)
  rw [hz1] at h
  simp only [Int.toNat_natCast] at h
  exact h

/-- A row of starts of one's own, at or behind block B. -/
structure SR (w : World) (B g cp : Nat) (E : List (Nat × Nat)) : Prop where
  own : OwnK w 73 2 g cp E.length (pF .i64 (fA E) (fun j => (fL E j : Nat)))
  base : B ≤ g

theorem SR.made (w : World) (B n : Nat) (hB : B ≤ w.heap.size) (hn : n ≤ 1048576) : SR (w.alloc (.cells (madeCells #[.int .i64 0, .int .i64 0] (n * 2)) 73)) B w.heap.size n [] :=
  ⟨(own_made w #[.int .i64 0, .int .i64 0] 73 2 n 0 rfl (by decide) (Nat.zero_le _) (by unfold maxLen; omega)).congr (fun c i hc hi => by omega), hB⟩

theorem SR.push {w : World} {B g cp : Nat} {E : List (Nat × Nat)} {a l : Nat}
    (h : w.ownsRow B 73 2 (.slice (some ⟨g, 0, none⟩) (E.length + 1) cp) (E.length + 1) (Mem.flatK 2 (pF .i64 (fA E) (fun j => (fL E j : Nat))) E.length ++ [.int .i64 (a : Nat), .int .i64 (l : Nat)])) : SR w B g cp (E ++ [(a, l)]) := by
  obtain ⟨h1, h2⟩ := pr_push (A' := fA (E ++ [(a, l)])) (B' := fun j => (fL (E ++ [(a, l)]) j : Nat)) h (fun c hc => by unfold fA; rw [pget_left hc]) (fun c hc => by unfold fL; rw [pget_left hc]) (by unfold fA; rw [pget_snoc]) (by unfold fL; rw [pget_snoc])
  exact ⟨by rw [List.length_append]; exact h1, h2⟩

theorem SR.of_block {w w' : World} {B g cp : Nat} {E : List (Nat × Nat)} (h : SR w B g cp E) (hb : w'.heap[g]? = w.heap[g]?) : SR w' B g cp E := ⟨h.own.of_block hb, h.base⟩

theorem SR.pr {w : World} {B g cp : Nat} {E : List (Nat × Nat)} (h : SR w B g cp E) : PR w g E.length .i64 (fA E) (fun j => (fL E j : Nat)) := pr_of h.own

end Go.Proofs.Qxb6608903a.Ix
