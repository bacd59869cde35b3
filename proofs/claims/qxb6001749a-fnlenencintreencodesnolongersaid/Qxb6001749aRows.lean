/-
  No cell of these rows narrows 'for every input' (looked for: loops, veiled, ifaces, maps, wideKeys, modest, calm, conditions, laid).
  DERIVED. THE GIVEN ROWS OF THIS SEAT. 8 by the template 'for every input the law returns true; each argument reads behind the call as it read before'; 0 by the template 'total and deterministic' (their statements: Qxb6001749aTotals.lean).
  GIVEN WITH THE SEED: the statements are not yours to turn. If you find one false, say at which input.
  Laid BY PROGRAM, IN A SANDBOX (cutbox-rows.mjs): the forced cells as the released guide's own fill.sh prints them over the translation c32cc9cc3ae01178… (all of the seat's roots in one cut). By AI agents, Wed Nov 11 2026. No macro, syntax, notation, axiom, sorry.
-/
import Derived.Test.Qxb6001749aChecked
import GoSem.Claim
import GoSem.ClaimJoined
import GoSem.ClaimMapViews
import Derived.JoinedTies
import Derived.KernelRfl
namespace Go.Proofs.Qxb6001749a
/- THE CELL 'sum', in the pinned program and in every row, IS THE sha256 OF THE DUMP (.gsa) THAT Qxb6001749aProg.lean LOADS. Nothing in Lean hashes anything: it is a label: what it is worth is what the hold of that sum in a sandbox is worth. -/
noncomputable def Try.pinned : Pinned := { name := "qxb6001749a", sum := "c32cc9cc3ae01178bc60d852f6e4b5f74f3e6536155e108852d70aeddbe194af", checked := Try.checked }
namespace Rows
def none {H : Type} : Left H := { results := [], args := [] }

/-- 'zzlaws_server_b1.FnLenEncIntRoundTrip': WHATEVER THE INPUT: true; the input reads as it did. -/
def fnLenEncIntRoundTripSpec : ChangeSpec := { name := "fnLenEncIntRoundTrip", fn := fun _ => fun
  | [d1, d2, d3] => { results := [.lit (.bool true)], args := [d1, d2, d3] }
  | _ => none }
def fnLenEncIntRoundTripRow : OpenClaim := { program := "qxb6001749a", sum := "c32cc9cc3ae01178bc60d852f6e4b5f74f3e6536155e108852d70aeddbe194af", func := "example.com/gapwise/gapwise/zzlaws_server_b1.FnLenEncIntRoundTrip", spec := "fnLenEncIntRoundTrip", apart := false }
def FnLenEncIntRoundTripSaid : Prop := fnLenEncIntRoundTripRow.holds Try.pinned (OpenSpec.ofChange fnLenEncIntRoundTripSpec)

/-- ITS FALSE NEIGHBOUR: 'it returns false'. Refute it at one input. -/
def fnLenEncIntRoundTripWrong : ChangeSpec := { name := "fnLenEncIntRoundTrip", fn := fun _ => fun
  | [d1, d2, d3] => { results := [.lit (.bool false)], args := [d1, d2, d3] }
  | _ => none }
def FnLenEncIntRoundTripWrongFalsely : Prop := fnLenEncIntRoundTripRow.holds Try.pinned (OpenSpec.ofChange fnLenEncIntRoundTripWrong)

/-- 'zzlaws_server_b1.FnAppendLenEncIntOrderedInjectiveClean': WHATEVER THE INPUT: true; the input reads as it did. -/
def fnAppendLenEncIntOrderedInjectiveCleanSpec : ChangeSpec := { name := "fnAppendLenEncIntOrderedInjectiveClean", fn := fun _ => fun
  | [d1, d2] => { results := [.lit (.bool true)], args := [d1, d2] }
  | _ => none }
def fnAppendLenEncIntOrderedInjectiveCleanRow : OpenClaim := { program := "qxb6001749a", sum := "c32cc9cc3ae01178bc60d852f6e4b5f74f3e6536155e108852d70aeddbe194af", func := "example.com/gapwise/gapwise/zzlaws_server_b1.FnAppendLenEncIntOrderedInjectiveClean", spec := "fnAppendLenEncIntOrderedInjectiveClean", apart := false }
def FnAppendLenEncIntOrderedInjectiveCleanSaid : Prop := fnAppendLenEncIntOrderedInjectiveCleanRow.holds Try.pinned (OpenSpec.ofChange fnAppendLenEncIntOrderedInjectiveCleanSpec)

/-- ITS FALSE NEIGHBOUR: 'it returns false'. Refute it at one input. -/
def fnAppendLenEncIntOrderedInjectiveCleanWrong : ChangeSpec := { name := "fnAppendLenEncIntOrderedInjectiveClean", fn := fun _ => fun
  | [d1, d2] => { results := [.lit (.bool false)], args := [d1, d2] }
  | _ => none }
def FnAppendLenEncIntOrderedInjectiveCleanWrongFalsely : Prop := fnAppendLenEncIntOrderedInjectiveCleanRow.holds Try.pinned (OpenSpec.ofChange fnAppendLenEncIntOrderedInjectiveCleanWrong)

/-- 'zzlaws_server_b1.FnLenEncIntReencodesNoLonger': WHATEVER THE INPUT: true; the input reads as it did. -/
def fnLenEncIntReencodesNoLongerSpec : ChangeSpec := { name := "fnLenEncIntReencodesNoLonger", fn := fun _ => fun
  | [d] => { results := [.lit (.bool true)], args := [d] }
  | _ => none }
def fnLenEncIntReencodesNoLongerRow : OpenClaim := { program := "qxb6001749a", sum := "c32cc9cc3ae01178bc60d852f6e4b5f74f3e6536155e108852d70aeddbe194af", func := "example.com/gapwise/gapwise/zzlaws_server_b1.FnLenEncIntReencodesNoLonger", spec := "fnLenEncIntReencodesNoLonger", apart := false }
def FnLenEncIntReencodesNoLongerSaid : Prop := fnLenEncIntReencodesNoLongerRow.holds Try.pinned (OpenSpec.ofChange fnLenEncIntReencodesNoLongerSpec)

/-- ITS FALSE NEIGHBOUR: 'it returns false'. Refute it at one input. -/
def fnLenEncIntReencodesNoLongerWrong : ChangeSpec := { name := "fnLenEncIntReencodesNoLonger", fn := fun _ => fun
  | [d] => { results := [.lit (.bool false)], args := [d] }
  | _ => none }
def FnLenEncIntReencodesNoLongerWrongFalsely : Prop := fnLenEncIntReencodesNoLongerRow.holds Try.pinned (OpenSpec.ofChange fnLenEncIntReencodesNoLongerWrong)

/-- 'zzlaws_server_b1.FnLenEncIntRefusesExactlyTruncated': WHATEVER THE INPUT: true; the input reads as it did. -/
def fnLenEncIntRefusesExactlyTruncatedSpec : ChangeSpec := { name := "fnLenEncIntRefusesExactlyTruncated", fn := fun _ => fun
  | [d] => { results := [.lit (.bool true)], args := [d] }
  | _ => none }
def fnLenEncIntRefusesExactlyTruncatedRow : OpenClaim := { program := "qxb6001749a", sum := "c32cc9cc3ae01178bc60d852f6e4b5f74f3e6536155e108852d70aeddbe194af", func := "example.com/gapwise/gapwise/zzlaws_server_b1.FnLenEncIntRefusesExactlyTruncated", spec := "fnLenEncIntRefusesExactlyTruncated", apart := false }
def FnLenEncIntRefusesExactlyTruncatedSaid : Prop := fnLenEncIntRefusesExactlyTruncatedRow.holds Try.pinned (OpenSpec.ofChange fnLenEncIntRefusesExactlyTruncatedSpec)

/-- ITS FALSE NEIGHBOUR: 'it returns false'. Refute it at one input. -/
def fnLenEncIntRefusesExactlyTruncatedWrong : ChangeSpec := { name := "fnLenEncIntRefusesExactlyTruncated", fn := fun _ => fun
  | [d] => { results := [.lit (.bool false)], args := [d] }
  | _ => none }
def FnLenEncIntRefusesExactlyTruncatedWrongFalsely : Prop := fnLenEncIntRefusesExactlyTruncatedRow.holds Try.pinned (OpenSpec.ofChange fnLenEncIntRefusesExactlyTruncatedWrong)

/-- 'zzlaws_server_b1.FnTakeSplits': WHATEVER THE INPUT: true; the input reads as it did. -/
def fnTakeSplitsSpec : ChangeSpec := { name := "fnTakeSplits", fn := fun _ => fun
  | [d1, d2, d3] => { results := [.lit (.bool true)], args := [d1, d2, d3] }
  | _ => none }
def fnTakeSplitsRow : OpenClaim := { program := "qxb6001749a", sum := "c32cc9cc3ae01178bc60d852f6e4b5f74f3e6536155e108852d70aeddbe194af", func := "example.com/gapwise/gapwise/zzlaws_server_b1.FnTakeSplits", spec := "fnTakeSplits", apart := false }
def FnTakeSplitsSaid : Prop := fnTakeSplitsRow.holds Try.pinned (OpenSpec.ofChange fnTakeSplitsSpec)

/-- ITS FALSE NEIGHBOUR: 'it returns false'. Refute it at one input. -/
def fnTakeSplitsWrong : ChangeSpec := { name := "fnTakeSplits", fn := fun _ => fun
  | [d1, d2, d3] => { results := [.lit (.bool false)], args := [d1, d2, d3] }
  | _ => none }
def FnTakeSplitsWrongFalsely : Prop := fnTakeSplitsRow.holds Try.pinned (OpenSpec.ofChange fnTakeSplitsWrong)

/-- 'zzlaws_server_b1.FnNulStringRoundTrip': WHATEVER THE INPUT: true; the input reads as it did. -/
def fnNulStringRoundTripSpec : ChangeSpec := { name := "fnNulStringRoundTrip", fn := fun _ => fun
  | [d1, d2] => { results := [.lit (.bool true)], args := [d1, d2] }
  | _ => none }
def fnNulStringRoundTripRow : OpenClaim := { program := "qxb6001749a", sum := "c32cc9cc3ae01178bc60d852f6e4b5f74f3e6536155e108852d70aeddbe194af", func := "example.com/gapwise/gapwise/zzlaws_server_b1.FnNulStringRoundTrip", spec := "fnNulStringRoundTrip", apart := false }
def FnNulStringRoundTripSaid : Prop := fnNulStringRoundTripRow.holds Try.pinned (OpenSpec.ofChange fnNulStringRoundTripSpec)

/-- ITS FALSE NEIGHBOUR: 'it returns false'. Refute it at one input. -/
def fnNulStringRoundTripWrong : ChangeSpec := { name := "fnNulStringRoundTrip", fn := fun _ => fun
  | [d1, d2] => { results := [.lit (.bool false)], args := [d1, d2] }
  | _ => none }
def FnNulStringRoundTripWrongFalsely : Prop := fnNulStringRoundTripRow.holds Try.pinned (OpenSpec.ofChange fnNulStringRoundTripWrong)

/-- 'zzlaws_server_b1.FnNulStringSplitsAtNuls': WHATEVER THE INPUT: true; the input reads as it did. -/
def fnNulStringSplitsAtNulsSpec : ChangeSpec := { name := "fnNulStringSplitsAtNuls", fn := fun _ => fun
  | [d] => { results := [.lit (.bool true)], args := [d] }
  | _ => none }
def fnNulStringSplitsAtNulsRow : OpenClaim := { program := "qxb6001749a", sum := "c32cc9cc3ae01178bc60d852f6e4b5f74f3e6536155e108852d70aeddbe194af", func := "example.com/gapwise/gapwise/zzlaws_server_b1.FnNulStringSplitsAtNuls", spec := "fnNulStringSplitsAtNuls", apart := false }
def FnNulStringSplitsAtNulsSaid : Prop := fnNulStringSplitsAtNulsRow.holds Try.pinned (OpenSpec.ofChange fnNulStringSplitsAtNulsSpec)

/-- ITS FALSE NEIGHBOUR: 'it returns false'. Refute it at one input. -/
def fnNulStringSplitsAtNulsWrong : ChangeSpec := { name := "fnNulStringSplitsAtNuls", fn := fun _ => fun
  | [d] => { results := [.lit (.bool false)], args := [d] }
  | _ => none }
def FnNulStringSplitsAtNulsWrongFalsely : Prop := fnNulStringSplitsAtNulsRow.holds Try.pinned (OpenSpec.ofChange fnNulStringSplitsAtNulsWrong)

/-- 'zzlaws_server_b1.FnReaderScriptKeepsSuffixAndStaysBad': WHATEVER THE INPUT: true; the input reads as it did. -/
def fnReaderScriptKeepsSuffixAndStaysBadSpec : ChangeSpec := { name := "fnReaderScriptKeepsSuffixAndStaysBad", fn := fun _ => fun
  | [d1, d2] => { results := [.lit (.bool true)], args := [d1, d2] }
  | _ => none }
def fnReaderScriptKeepsSuffixAndStaysBadRow : OpenClaim := { program := "qxb6001749a", sum := "c32cc9cc3ae01178bc60d852f6e4b5f74f3e6536155e108852d70aeddbe194af", func := "example.com/gapwise/gapwise/zzlaws_server_b1.FnReaderScriptKeepsSuffixAndStaysBad", spec := "fnReaderScriptKeepsSuffixAndStaysBad", apart := false }
def FnReaderScriptKeepsSuffixAndStaysBadSaid : Prop := fnReaderScriptKeepsSuffixAndStaysBadRow.holds Try.pinned (OpenSpec.ofChange fnReaderScriptKeepsSuffixAndStaysBadSpec)

/-- ITS FALSE NEIGHBOUR: 'it returns false'. Refute it at one input. -/
def fnReaderScriptKeepsSuffixAndStaysBadWrong : ChangeSpec := { name := "fnReaderScriptKeepsSuffixAndStaysBad", fn := fun _ => fun
  | [d1, d2] => { results := [.lit (.bool false)], args := [d1, d2] }
  | _ => none }
def FnReaderScriptKeepsSuffixAndStaysBadWrongFalsely : Prop := fnReaderScriptKeepsSuffixAndStaysBadRow.holds Try.pinned (OpenSpec.ofChange fnReaderScriptKeepsSuffixAndStaysBadWrong)

end Rows
end Go.Proofs.Qxb6001749a
