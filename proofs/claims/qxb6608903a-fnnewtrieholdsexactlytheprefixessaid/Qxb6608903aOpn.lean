/-
  A slice of slices of runes that came in, as the walks want it.
-/
import Derived.Test.Qxb6608903aDp
import Derived.OpenShut
import Derived.Deep.Matrix
namespace Go.Proofs.Qxb6608903a.Opn
open Go.ChangeShapes Go.WideShapes Go.RowKit Go.Proofs.Qxb6608903a.Plain Mem CmpW
set_option linter.unusedVariables false

theorem getD_take' (z : List Int) (n i : Nat) (h : i < n) : (z.take n).getD i 0 = z.getD i 0 := by
  rw [List.getD_eq_getElem?_getD, List.getD_eq_getElem?_getD, List.getElem?_take_of_lt h]

theorem tx_map (n : Nat) (f : Nat → List Int) {j : Nat} (h : j < n) : tx ((List.range n).map f) j = f j := by
  unfold tx
  rw [List.getD_eq_getElem?_getD, List.getElem?_map, List.getElem?_range h]
  rfl

theorem rc_of {w : World} {A : Option Addr} {L C : Nat} {Z : List Int} (hl : L ≤ C) (hz : Z.length = C) (hn : A = none → C = 0) (hc : ∀ a', A = some a' → ∀ c, c < C → w.cell? (a'.add c) = some (.int .i32 (Z.getD c 0))) : RC w A (Z.take L) := by
  by_cases h0 : L = 0
  · subst h0; exact .inl (by simp)
  · cases A with
    | none => exact absurd (hn rfl) (by omega)
    | some a =>
      obtain ⟨b, off, rfl, hcs⟩ := ints_at (k := .i32) (zs := Z) (fun i hi => hc a rfl i (by omega)) (by omega)
      refine .inr ⟨b, off, rfl, fun j hj => ?_⟩
      have hj' : j < L := by rw [List.length_take] at hj; omega
      unfold rn
      rw [getD_take' _ _ _ hj']
      exact hcs j (by omega)

/-- What a slice of slices of runes holds. -/
theorem texts_of {H : Type} {enc : TypeId × Value → H} {w : World} {base : Nat} {held : Bool} {fuel : Nat} {a : Option Addr} {len cap : Nat} {x : DataW H × List MemPlace}
    (h : DataW.trod enc Try.prog w base (fun _ => true) held fuel 22 [.slice a len cap] = some x) : ∃ T : List (List Int), T.length = len ∧ TXs w a T := by
  rcases Go.Deep.open_int_rows Try.underlying22 Try.underlying24 Try.underlying21 (by kernel_rfl) (by kernel_rfl) h with ⟨hcs, _⟩ | ⟨y, l, c, A, L, C, Z, hcs, _, hl, hm, _, hr⟩
  · simp at hcs
    obtain ⟨rfl, rfl, rfl⟩ := hcs
    exact ⟨[], rfl, .inl rfl⟩
  · simp at hcs
    obtain ⟨rfl, rfl, rfl⟩ := hcs
    refine ⟨(List.range len).map fun r => (Z r).take (L r), by simp, ?_⟩
    by_cases h0 : len = 0
    · subst h0; exact .inl rfl
    · obtain ⟨b, off, spot⟩ := y
      have hspot : spot = none := by simpa [Addr.add] using World.cell?_spot (hr 0 (by omega)).1
      subst hspot
      refine .inr ⟨b, off, A, C, rfl, ⟨fun j hj => ?_, fun j hj => ?_⟩⟩
      · have hj' : j < len := by simpa using hj
        obtain ⟨h1, h2, h3, h4, h5, h6, h7⟩ := hr j (by omega)
        rw [tx_map _ _ hj', List.length_take, h4, Nat.min_eq_left h2, ← Go.WideShapes.add_plain]
        exact h1
      · have hj' : j < len := by simpa using hj
        obtain ⟨h1, h2, h3, h4, h5, h6, h7⟩ := hr j (by omega)
        rw [tx_map _ _ hj']
        exact rc_of h2 h4 h6 (fun a' ha => (h7 a' ha).2)

end Go.Proofs.Qxb6608903a.Opn
