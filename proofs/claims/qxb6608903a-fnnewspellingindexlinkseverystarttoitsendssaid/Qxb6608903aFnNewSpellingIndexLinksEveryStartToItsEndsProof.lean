/-
  The proof of 'Rows.FnNewSpellingIndexLinksEveryStartToItsEndsSaid'. The row's step is after the shells that the guide's tool writes for slices.
-/
import Derived.Test.Qxb6608903aRows
import Derived.WalkKit
import Derived.ProofKit
import Derived.OpenShut
import Derived.ShutString
import Derived.ChangeOld
import Derived.Below
import Derived.Test.Qxb6608903aL6
import Derived.Test.Qxb6608903aOs
namespace Go.Proofs.Qxb6608903a.fnNewSpellingIndexLinksEveryStartToItsEnds
open Go.ChangeShapes Go.WideShapes Go.ChangeAt Go.RowKit
set_option linter.unusedVariables false

theorem own : ownKnob Try.prog.godebug = none := by kernel_rfl
theorem laidOut : laidOutB Try.prog = true := by kernel_rfl

set_option maxRecDepth 100000 in
theorem lifted (os : Os) (started : os.Started) (H : Type) (enc : TypeId × Value → H) :
    ReturnsInHanded {} Try.checked os 6 .any (Rows.fnNewSpellingIndexLinksEveryStartToItsEndsSpec.pre6 enc Try.prog Try.f6 Rows.fnNewSpellingIndexLinksEveryStartToItsEndsRow.domain false) (Rows.fnNewSpellingIndexLinksEveryStartToItsEndsSpec.post enc Try.prog Try.f6 false true false false) := by
  refine returnsInHanded_of_change (C := Try.checked) own started (by kernel_rfl) Try.func6
    (ChangeSpec.witness6 (enc := enc) (C := Try.checked) false ⟨#[], #[.slice none 0 0, .slice none 0 0], []⟩ 8 (by kernel_rfl) (by kernel_rfl) (by kernel_rfl) (by kernel_rfl)) ?_
  intro W base args ds gs before hval0 hW hcnd _
  have hval : ∀ (j : Nat) t v, Try.f6.params[j]? = some t → args[j]? = some v → Value.okWide Try.prog W .any base t v := hval0
  have hW' := hW
  obtain ⟨p, q, hA0, hV, rfl, hfz, hnd⟩ := hW
  have hA : DataW.TrodAll enc Try.prog W 0 (fun _ => true) true Try.f6.params.toList args.toList ds p := hA0
  rw [Try.params6] at hA hval
  obtain ⟨v0, vs0, d0, ds0, p0, q0, hargs, rfl, rfl, h0, r0⟩ := trodAll_cons hA
  obtain ⟨v1, vs1, d1, ds1, p1, q1, rfl, rfl, rfl, h1, r1⟩ := trodAll_cons r0
  obtain ⟨rfl, rfl, rfl⟩ := trodAll_nil r1
  obtain rfl : args = #[v0, v1] := by cases args; simp_all
  obtain ⟨rfl, rfl⟩ := trodVars_none hV
  obtain ⟨a0, len0, cap0, rfl⟩ := okWide_slice Try.underlying35 (hval 0 35 v0 rfl rfl)
  obtain ⟨a1, len1, cap1, rfl⟩ := okWide_slice Try.underlying36 (hval 1 36 v1 rfl rfl)
  have k0 := h0
  have k1 := h1
  have lt0 : ∀ x ∈ p0, x.block < W.heap.size := by obtain ⟨m, hm⟩ := k0; exact DataW.trod_lt m _ _ _ hm
  have lt1 : ∀ x ∈ p1, x.block < W.heap.size := by obtain ⟨m, hm⟩ := k1; exact DataW.trod_lt m _ _ _ hm
  obtain ⟨str, hst⟩ : ∃ str : Nat → ByteArray, Ix.StAt W a0 len0 str := by
    obtain ⟨fuel, hf⟩ := h0
    exact Ix.strings_of (cap := cap0) (by simpa [Value.cells] using hf)
  obtain ⟨ch, hin⟩ : ∃ ch : Nat → Int, Ix.InAt W a1 len1 ch := by
    obtain ⟨fuel, hf⟩ := h1
    exact Ix.ints_of (cap := cap1) (by simpa [Value.cells] using hf)
  clear hA0 hval0
  refine (Ix.law6 W a0 a1 cap0 cap1 len0 len1 str ch hst hin).mono fun e W' ⟨he, bel⟩ => ?_
  subst he
  exact ⟨_, rfl, _, _, _, [], _, [], hW', trodAll_mk1 (shut_bool Try.underlying4 _), (trodAll_cons_mk (Below.trod laidOut (by kernel_rfl) (of_decide_eq_true (by kernel_rfl)) k0 bel lt0) (trodAll_cons_mk (Below.trod laidOut (by kernel_rfl) (of_decide_eq_true (by kernel_rfl)) k1 bel lt1) trodAll_mk0)), rfl, bel.frame _, fun h => by cases h⟩

theorem over : Rows.fnNewSpellingIndexLinksEveryStartToItsEndsRow.holds Try.pinned (OpenSpec.ofChange Rows.fnNewSpellingIndexLinksEveryStartToItsEndsSpec) :=
  OpenClaim.holds_of_wide 6 Try.f6 rfl rfl rfl rfl rfl rfl rfl ⟨rfl, rfl, rfl, rfl, rfl⟩ rfl rfl rfl rfl rfl (by kernel_rfl) Try.func6 (by kernel_rfl)
    (of_decide_eq_true (by kernel_rfl)) (by unfold Func.isWrapper; first | (rw [if_pos (by decide +kernel)]; kernel_rfl) | (rw [if_neg (by decide +kernel)]; exact ⟨rfl, rfl⟩))
    (fun os started H enc _ => lifted os started H enc)

end Go.Proofs.Qxb6608903a.fnNewSpellingIndexLinksEveryStartToItsEnds
namespace Go.Proofs.Qxb6608903a

/-- THE STATEMENT. -/
theorem fnNewSpellingIndexLinksEveryStartToItsEnds_proved : Rows.FnNewSpellingIndexLinksEveryStartToItsEndsSaid := fnNewSpellingIndexLinksEveryStartToItsEnds.over

end Go.Proofs.Qxb6608903a
