/-
  No cell of these rows narrows 'for every input' (looked for: loops, veiled, ifaces, maps, wideKeys, modest, calm, conditions, laid).
  DERIVED. THE GIVEN ROWS OF THIS SEAT. 4 by the template 'for every input the law returns true; each argument reads behind the call as it read before'; 0 by the template 'total and deterministic' (their statements: Qxb6608903aTotals.lean).
  GIVEN WITH THE SEED: the statements are not yours to turn. If you find one false, say at which input.
  Laid BY PROGRAM, IN A SANDBOX (cutbox-rows.mjs): the forced cells as the released guide's own fill.sh prints them over the translation 3e3d5b24b642226d… (all of the seat's roots in one cut). By AI agents, Wed Nov 11 2026. No macro, syntax, notation, axiom, sorry.
-/
import Derived.Test.Qxb6608903aChecked
import GoSem.Claim
import GoSem.ClaimJoined
import GoSem.ClaimMapViews
import Derived.JoinedTies
import Derived.KernelRfl
namespace Go.Proofs.Qxb6608903a
/- THE CELL 'sum', in the pinned program and in every row, IS THE sha256 OF THE DUMP (.gsa) THAT Qxb6608903aProg.lean LOADS. Nothing in Lean hashes anything: it is a label: what it is worth is what the hold of that sum in a sandbox is worth. -/
noncomputable def Try.pinned : Pinned := { name := "qxb6608903a", sum := "3e3d5b24b642226d3f34bb7f43cf94e791416d141b46f9076542a4d558b60c10", checked := Try.checked }
namespace Rows
def none {H : Type} : Left H := { results := [], args := [] }

/-- 'zzlaws_root_b1.FnNewTrieHoldsExactlyThePrefixes': WHATEVER THE INPUT: true; the input reads as it did. -/
def fnNewTrieHoldsExactlyThePrefixesSpec : ChangeSpec := { name := "fnNewTrieHoldsExactlyThePrefixes", fn := fun _ => fun
  | [d] => { results := [.lit (.bool true)], args := [d] }
  | _ => none }
def fnNewTrieHoldsExactlyThePrefixesRow : OpenClaim := { program := "qxb6608903a", sum := "3e3d5b24b642226d3f34bb7f43cf94e791416d141b46f9076542a4d558b60c10", func := "example.com/strict-settings/strict-settings/zzlaws_root_b1.FnNewTrieHoldsExactlyThePrefixes", spec := "fnNewTrieHoldsExactlyThePrefixes", unfollowed := true, recurses := true, apart := false }
def FnNewTrieHoldsExactlyThePrefixesSaid : Prop := fnNewTrieHoldsExactlyThePrefixesRow.holds Try.pinned (OpenSpec.ofChange fnNewTrieHoldsExactlyThePrefixesSpec)

/-- ITS FALSE NEIGHBOUR: 'it returns false'. Refute it at one input. -/
def fnNewTrieHoldsExactlyThePrefixesWrong : ChangeSpec := { name := "fnNewTrieHoldsExactlyThePrefixes", fn := fun _ => fun
  | [d] => { results := [.lit (.bool false)], args := [d] }
  | _ => none }
def FnNewTrieHoldsExactlyThePrefixesWrongFalsely : Prop := fnNewTrieHoldsExactlyThePrefixesRow.holds Try.pinned (OpenSpec.ofChange fnNewTrieHoldsExactlyThePrefixesWrong)

/-- 'zzlaws_root_b1.FnNewTrieOneTextPutInAnywhere': WHATEVER THE INPUT: true; the input reads as it did. -/
def fnNewTrieOneTextPutInAnywhereSpec : ChangeSpec := { name := "fnNewTrieOneTextPutInAnywhere", fn := fun _ => fun
  | [d1, d2, d3] => { results := [.lit (.bool true)], args := [d1, d2, d3] }
  | _ => none }
def fnNewTrieOneTextPutInAnywhereRow : OpenClaim := { program := "qxb6608903a", sum := "3e3d5b24b642226d3f34bb7f43cf94e791416d141b46f9076542a4d558b60c10", func := "example.com/strict-settings/strict-settings/zzlaws_root_b1.FnNewTrieOneTextPutInAnywhere", spec := "fnNewTrieOneTextPutInAnywhere", unfollowed := true, recurses := true, apart := false }
def FnNewTrieOneTextPutInAnywhereSaid : Prop := fnNewTrieOneTextPutInAnywhereRow.holds Try.pinned (OpenSpec.ofChange fnNewTrieOneTextPutInAnywhereSpec)

/-- ITS FALSE NEIGHBOUR: 'it returns false'. Refute it at one input. -/
def fnNewTrieOneTextPutInAnywhereWrong : ChangeSpec := { name := "fnNewTrieOneTextPutInAnywhere", fn := fun _ => fun
  | [d1, d2, d3] => { results := [.lit (.bool false)], args := [d1, d2, d3] }
  | _ => none }
def FnNewTrieOneTextPutInAnywhereWrongFalsely : Prop := fnNewTrieOneTextPutInAnywhereRow.holds Try.pinned (OpenSpec.ofChange fnNewTrieOneTextPutInAnywhereWrong)

/-- 'zzlaws_root_b1.FnNewSpellingIndexIsOrderFree': WHATEVER THE INPUT: true; the input reads as it did. -/
def fnNewSpellingIndexIsOrderFreeSpec : ChangeSpec := { name := "fnNewSpellingIndexIsOrderFree", fn := fun _ => fun
  | [d1, d2, d3] => { results := [.lit (.bool true)], args := [d1, d2, d3] }
  | _ => none }
def fnNewSpellingIndexIsOrderFreeRow : OpenClaim := { program := "qxb6608903a", sum := "3e3d5b24b642226d3f34bb7f43cf94e791416d141b46f9076542a4d558b60c10", func := "example.com/strict-settings/strict-settings/zzlaws_root_b1.FnNewSpellingIndexIsOrderFree", spec := "fnNewSpellingIndexIsOrderFree", unfollowed := true, recurses := true, apart := false }
def FnNewSpellingIndexIsOrderFreeSaid : Prop := fnNewSpellingIndexIsOrderFreeRow.holds Try.pinned (OpenSpec.ofChange fnNewSpellingIndexIsOrderFreeSpec)

/-- ITS FALSE NEIGHBOUR: 'it returns false'. Refute it at one input. -/
def fnNewSpellingIndexIsOrderFreeWrong : ChangeSpec := { name := "fnNewSpellingIndexIsOrderFree", fn := fun _ => fun
  | [d1, d2, d3] => { results := [.lit (.bool false)], args := [d1, d2, d3] }
  | _ => none }
def FnNewSpellingIndexIsOrderFreeWrongFalsely : Prop := fnNewSpellingIndexIsOrderFreeRow.holds Try.pinned (OpenSpec.ofChange fnNewSpellingIndexIsOrderFreeWrong)

/-- 'zzlaws_root_b1.FnNewSpellingIndexLinksEveryStartToItsEnds': WHATEVER THE INPUT: true; the input reads as it did. -/
def fnNewSpellingIndexLinksEveryStartToItsEndsSpec : ChangeSpec := { name := "fnNewSpellingIndexLinksEveryStartToItsEnds", fn := fun _ => fun
  | [d1, d2] => { results := [.lit (.bool true)], args := [d1, d2] }
  | _ => none }
def fnNewSpellingIndexLinksEveryStartToItsEndsRow : OpenClaim := { program := "qxb6608903a", sum := "3e3d5b24b642226d3f34bb7f43cf94e791416d141b46f9076542a4d558b60c10", func := "example.com/strict-settings/strict-settings/zzlaws_root_b1.FnNewSpellingIndexLinksEveryStartToItsEnds", spec := "fnNewSpellingIndexLinksEveryStartToItsEnds", unfollowed := true, recurses := true, apart := false }
def FnNewSpellingIndexLinksEveryStartToItsEndsSaid : Prop := fnNewSpellingIndexLinksEveryStartToItsEndsRow.holds Try.pinned (OpenSpec.ofChange fnNewSpellingIndexLinksEveryStartToItsEndsSpec)

/-- ITS FALSE NEIGHBOUR: 'it returns false'. Refute it at one input. -/
def fnNewSpellingIndexLinksEveryStartToItsEndsWrong : ChangeSpec := { name := "fnNewSpellingIndexLinksEveryStartToItsEnds", fn := fun _ => fun
  | [d1, d2] => { results := [.lit (.bool false)], args := [d1, d2] }
  | _ => none }
def FnNewSpellingIndexLinksEveryStartToItsEndsWrongFalsely : Prop := fnNewSpellingIndexLinksEveryStartToItsEndsRow.holds Try.pinned (OpenSpec.ofChange fnNewSpellingIndexLinksEveryStartToItsEndsWrong)

end Rows
end Go.Proofs.Qxb6608903a
