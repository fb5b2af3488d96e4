/-
  Slices of strings and of numbers that came in, as the walks want them.
-/
import Derived.Test.Qxb6608903aBy
import Derived.OpenShut
import Derived.Deep.Strs
import Derived.ChangeSlices
namespace Go.Proofs.Qxb6608903a.Ix
open Go.ChangeShapes Go.WideShapes Go.RowKit Mem
set_option linter.unusedVariables false

theorem strings_of {H : Type} {enc : TypeId × Value → H} {w : World} {base : Nat} {held : Bool} {fuel : Nat} {a : Option Addr} {len cap : Nat} {x : DataW H × List MemPlace}
    (h : DataW.trod enc Try.prog w base (fun _ => true) held fuel 35 [.slice a len cap] = some x) : ∃ str : Nat → ByteArray, StAt w a len str := by
  rcases Go.Deep.open_strs Try.underlying35 Try.underlying9 (by kernel_rfl) h with ⟨hcs, _⟩ | ⟨y, l, c, m, Sx, hcs, _, hl, hm, hmm, _, hr⟩
  · simp at hcs
    obtain ⟨rfl, rfl, rfl⟩ := hcs
    exact ⟨fun _ => ⟨#[]⟩, .inl rfl⟩
  · simp at hcs
    obtain ⟨rfl, rfl, rfl⟩ := hcs
    refine ⟨Sx, ?_⟩
    by_cases h0 : len = 0
    · exact .inl h0
    · obtain ⟨b, off, spot⟩ := y
      have hml : len ≤ m := by rw [hmm]; simpa using hl
      have hspot : spot = none := by simpa [Addr.add] using World.cell?_spot (hr 0 (by omega)).1
      subst hspot
      refine .inr ⟨b, off, rfl, fun j hj => ?_⟩
      have := (hr j (by omega)).1
      rw [← Go.WideShapes.add_plain]
      exact this

theorem ints_of {H : Type} {enc : TypeId × Value → H} {w : World} {base : Nat} {held : Bool} {fuel : Nat} {a : Option Addr} {len cap : Nat} {x : DataW H × List MemPlace}
    (h : DataW.trod enc Try.prog w base (fun _ => true) held fuel 36 [.slice a len cap] = some x) : ∃ ch : Nat → Int, InAt w a len ch := by
  rcases open_ints Try.underlying36 Try.underlying3 (by kernel_rfl) h with ⟨hcs, _⟩ | ⟨y, l, c, zs, hcs, _, hl, hm, hz, _, hcell, hwz⟩
  · simp at hcs
    obtain ⟨rfl, rfl, rfl⟩ := hcs
    exact ⟨fun _ => 0, .inl rfl⟩
  · simp at hcs
    obtain ⟨rfl, rfl, rfl⟩ := hcs
    refine ⟨fun j => zs.getD j 0, ?_⟩
    by_cases h0 : len = 0
    · exact .inl h0
    · have hz' : zs.length = cap := by simpa using hz
      obtain ⟨b, off, rfl, hc'⟩ := ints_at hcell (by omega)
      exact .inr ⟨b, off, rfl, fun j hj => hc' j (by omega)⟩

end Go.Proofs.Qxb6608903a.Ix
