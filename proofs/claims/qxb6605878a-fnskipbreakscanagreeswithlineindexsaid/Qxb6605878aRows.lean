/-
  No cell of these rows narrows 'for every input' (looked for: loops, veiled, ifaces, maps, wideKeys, modest, calm, conditions, laid).
  DERIVED. THE GIVEN ROWS OF THIS SEAT. 6 by the template 'for every input the law returns true; each argument reads behind the call as it read before'; 0 by the template 'total and deterministic' (their statements: Qxb6605878aTotals.lean).
  GIVEN WITH THE SEED: the statements are not yours to turn. If you find one false, say at which input.
  Laid BY PROGRAM, IN A SANDBOX (cutbox-rows.mjs): the forced cells as the released guide's own fill.sh prints them over the translation fba8699d7aa5c2f4… (all of the seat's roots in one cut). By AI agents, Wed Nov 11 2026. No macro, syntax, notation, axiom, sorry.
-/
import Derived.Test.Qxb6605878aChecked
import GoSem.Claim
import GoSem.ClaimJoined
import GoSem.ClaimMapViews
import Derived.JoinedTies
import Derived.KernelRfl
namespace Go.Proofs.Qxb6605878a
/- THE CELL 'sum', in the pinned program and in every row, IS THE sha256 OF THE DUMP (.gsa) THAT Qxb6605878aProg.lean LOADS. Nothing in Lean hashes anything: it is a label: what it is worth is what the hold of that sum in a sandbox is worth. -/
noncomputable def Try.pinned : Pinned := { name := "qxb6605878a", sum := "fba8699d7aa5c2f470316cbde97d9ef8df530561924fdfc01c79cb8b8730404e", checked := Try.checked }
namespace Rows
def none {H : Type} : Left H := { results := [], args := [] }

/-- 'zzlaws_root_b1.FnLineStartIsFirstByteOfLine': WHATEVER THE INPUT: true; the input reads as it did. -/
def fnLineStartIsFirstByteOfLineSpec : ChangeSpec := { name := "fnLineStartIsFirstByteOfLine", fn := fun _ => fun
  | [d1, d2] => { results := [.lit (.bool true)], args := [d1, d2] }
  | _ => none }
def fnLineStartIsFirstByteOfLineRow : OpenClaim := { program := "qxb6605878a", sum := "fba8699d7aa5c2f470316cbde97d9ef8df530561924fdfc01c79cb8b8730404e", func := "example.com/lamina/lamina/zzlaws_root_b1.FnLineStartIsFirstByteOfLine", spec := "fnLineStartIsFirstByteOfLine", apart := false }
def FnLineStartIsFirstByteOfLineSaid : Prop := fnLineStartIsFirstByteOfLineRow.holds Try.pinned (OpenSpec.ofChange fnLineStartIsFirstByteOfLineSpec)

/-- ITS FALSE NEIGHBOUR: 'it returns false'. Refute it at one input. -/
def fnLineStartIsFirstByteOfLineWrong : ChangeSpec := { name := "fnLineStartIsFirstByteOfLine", fn := fun _ => fun
  | [d1, d2] => { results := [.lit (.bool false)], args := [d1, d2] }
  | _ => none }
def FnLineStartIsFirstByteOfLineWrongFalsely : Prop := fnLineStartIsFirstByteOfLineRow.holds Try.pinned (OpenSpec.ofChange fnLineStartIsFirstByteOfLineWrong)

/-- 'zzlaws_root_b1.FnLineStartOrdersLines': WHATEVER THE INPUT: true; the input reads as it did. -/
def fnLineStartOrdersLinesSpec : ChangeSpec := { name := "fnLineStartOrdersLines", fn := fun _ => fun
  | [d1, d2, d3] => { results := [.lit (.bool true)], args := [d1, d2, d3] }
  | _ => none }
def fnLineStartOrdersLinesRow : OpenClaim := { program := "qxb6605878a", sum := "fba8699d7aa5c2f470316cbde97d9ef8df530561924fdfc01c79cb8b8730404e", func := "example.com/lamina/lamina/zzlaws_root_b1.FnLineStartOrdersLines", spec := "fnLineStartOrdersLines", apart := false }
def FnLineStartOrdersLinesSaid : Prop := fnLineStartOrdersLinesRow.holds Try.pinned (OpenSpec.ofChange fnLineStartOrdersLinesSpec)

/-- ITS FALSE NEIGHBOUR: 'it returns false'. Refute it at one input. -/
def fnLineStartOrdersLinesWrong : ChangeSpec := { name := "fnLineStartOrdersLines", fn := fun _ => fun
  | [d1, d2, d3] => { results := [.lit (.bool false)], args := [d1, d2, d3] }
  | _ => none }
def FnLineStartOrdersLinesWrongFalsely : Prop := fnLineStartOrdersLinesRow.holds Try.pinned (OpenSpec.ofChange fnLineStartOrdersLinesWrong)

/-- 'zzlaws_root_b1.FnSkipBreakScanAgreesWithLineIndex': WHATEVER THE INPUT: true; the input reads as it did. -/
def fnSkipBreakScanAgreesWithLineIndexSpec : ChangeSpec := { name := "fnSkipBreakScanAgreesWithLineIndex", fn := fun _ => fun
  | [d] => { results := [.lit (.bool true)], args := [d] }
  | _ => none }
def fnSkipBreakScanAgreesWithLineIndexRow : OpenClaim := { program := "qxb6605878a", sum := "fba8699d7aa5c2f470316cbde97d9ef8df530561924fdfc01c79cb8b8730404e", func := "example.com/lamina/lamina/zzlaws_root_b1.FnSkipBreakScanAgreesWithLineIndex", spec := "fnSkipBreakScanAgreesWithLineIndex", unfollowed := true, recurses := true, apart := false }
def FnSkipBreakScanAgreesWithLineIndexSaid : Prop := fnSkipBreakScanAgreesWithLineIndexRow.holds Try.pinned (OpenSpec.ofChange fnSkipBreakScanAgreesWithLineIndexSpec)

/-- ITS FALSE NEIGHBOUR: 'it returns false'. Refute it at one input. -/
def fnSkipBreakScanAgreesWithLineIndexWrong : ChangeSpec := { name := "fnSkipBreakScanAgreesWithLineIndex", fn := fun _ => fun
  | [d] => { results := [.lit (.bool false)], args := [d] }
  | _ => none }
def FnSkipBreakScanAgreesWithLineIndexWrongFalsely : Prop := fnSkipBreakScanAgreesWithLineIndexRow.holds Try.pinned (OpenSpec.ofChange fnSkipBreakScanAgreesWithLineIndexWrong)

/-- 'zzlaws_root_b1.FnNewJSONReaderKeepsOwnOrigin': WHATEVER THE INPUT: true; the input reads as it did. -/
def fnNewJSONReaderKeepsOwnOriginSpec : ChangeSpec := { name := "fnNewJSONReaderKeepsOwnOrigin", fn := fun _ => fun
  | [d1, d2, d3, d4, d5] => { results := [.lit (.bool true)], args := [d1, d2, d3, d4, d5] }
  | _ => none }
def fnNewJSONReaderKeepsOwnOriginRow : OpenClaim := { program := "qxb6605878a", sum := "fba8699d7aa5c2f470316cbde97d9ef8df530561924fdfc01c79cb8b8730404e", func := "example.com/lamina/lamina/zzlaws_root_b1.FnNewJSONReaderKeepsOwnOrigin", spec := "fnNewJSONReaderKeepsOwnOrigin", apart := false }
def FnNewJSONReaderKeepsOwnOriginSaid : Prop := fnNewJSONReaderKeepsOwnOriginRow.holds Try.pinned (OpenSpec.ofChange fnNewJSONReaderKeepsOwnOriginSpec)

/-- ITS FALSE NEIGHBOUR: 'it returns false'. Refute it at one input. -/
def fnNewJSONReaderKeepsOwnOriginWrong : ChangeSpec := { name := "fnNewJSONReaderKeepsOwnOrigin", fn := fun _ => fun
  | [d1, d2, d3, d4, d5] => { results := [.lit (.bool false)], args := [d1, d2, d3, d4, d5] }
  | _ => none }
def FnNewJSONReaderKeepsOwnOriginWrongFalsely : Prop := fnNewJSONReaderKeepsOwnOriginRow.holds Try.pinned (OpenSpec.ofChange fnNewJSONReaderKeepsOwnOriginWrong)

/-- 'zzlaws_root_b1.FnSizeAtIsCappedLinearCost': WHATEVER THE INPUT: true; the input reads as it did. -/
def fnSizeAtIsCappedLinearCostSpec : ChangeSpec := { name := "fnSizeAtIsCappedLinearCost", fn := fun _ => fun
  | [d1, d2, d3, d4] => { results := [.lit (.bool true)], args := [d1, d2, d3, d4] }
  | _ => none }
def fnSizeAtIsCappedLinearCostRow : OpenClaim := { program := "qxb6605878a", sum := "fba8699d7aa5c2f470316cbde97d9ef8df530561924fdfc01c79cb8b8730404e", func := "example.com/lamina/lamina/zzlaws_root_b1.FnSizeAtIsCappedLinearCost", spec := "fnSizeAtIsCappedLinearCost", apart := false }
def FnSizeAtIsCappedLinearCostSaid : Prop := fnSizeAtIsCappedLinearCostRow.holds Try.pinned (OpenSpec.ofChange fnSizeAtIsCappedLinearCostSpec)

/-- ITS FALSE NEIGHBOUR: 'it returns false'. Refute it at one input. -/
def fnSizeAtIsCappedLinearCostWrong : ChangeSpec := { name := "fnSizeAtIsCappedLinearCost", fn := fun _ => fun
  | [d1, d2, d3, d4] => { results := [.lit (.bool false)], args := [d1, d2, d3, d4] }
  | _ => none }
def FnSizeAtIsCappedLinearCostWrongFalsely : Prop := fnSizeAtIsCappedLinearCostRow.holds Try.pinned (OpenSpec.ofChange fnSizeAtIsCappedLinearCostWrong)

/-- 'zzlaws_root_b1.FnSizeAtSplitPath': WHATEVER THE INPUT: true; the input reads as it did. -/
def fnSizeAtSplitPathSpec : ChangeSpec := { name := "fnSizeAtSplitPath", fn := fun _ => fun
  | [d1, d2, d3, d4, d5] => { results := [.lit (.bool true)], args := [d1, d2, d3, d4, d5] }
  | _ => none }
def fnSizeAtSplitPathRow : OpenClaim := { program := "qxb6605878a", sum := "fba8699d7aa5c2f470316cbde97d9ef8df530561924fdfc01c79cb8b8730404e", func := "example.com/lamina/lamina/zzlaws_root_b1.FnSizeAtSplitPath", spec := "fnSizeAtSplitPath", apart := false }
def FnSizeAtSplitPathSaid : Prop := fnSizeAtSplitPathRow.holds Try.pinned (OpenSpec.ofChange fnSizeAtSplitPathSpec)

/-- ITS FALSE NEIGHBOUR: 'it returns false'. Refute it at one input. -/
def fnSizeAtSplitPathWrong : ChangeSpec := { name := "fnSizeAtSplitPath", fn := fun _ => fun
  | [d1, d2, d3, d4, d5] => { results := [.lit (.bool false)], args := [d1, d2, d3, d4, d5] }
  | _ => none }
def FnSizeAtSplitPathWrongFalsely : Prop := fnSizeAtSplitPathRow.holds Try.pinned (OpenSpec.ofChange fnSizeAtSplitPathWrong)

end Rows
end Go.Proofs.Qxb6605878a
