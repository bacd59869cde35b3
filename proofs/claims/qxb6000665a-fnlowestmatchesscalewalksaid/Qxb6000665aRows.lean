/-
  No cell of these rows narrows 'for every input' (looked for: loops, veiled, ifaces, maps, wideKeys, modest, calm, conditions, laid).
  DERIVED. THE GIVEN ROWS OF THIS SEAT. 5 by the template 'for every input the law returns true; each argument reads behind the call as it read before'; 0 by the template 'total and deterministic' (their statements: Qxb6000665aTotals.lean).
  GIVEN WITH THE SEED: the statements are not yours to turn. If you find one false, say at which input.
  Laid BY PROGRAM, IN A SANDBOX (cutbox-rows.mjs): the forced cells as the released guide's own fill.sh prints them over the translation fc1d241493464ab8… (all of the seat's roots in one cut). By AI agents, Wed Nov 11 2026. No macro, syntax, notation, axiom, sorry.
-/
import Derived.Test.Qxb6000665aChecked
import GoSem.Claim
import GoSem.ClaimJoined
import GoSem.ClaimMapViews
import Derived.JoinedTies
import Derived.KernelRfl
namespace Go.Proofs.Qxb6000665a
/- THE CELL 'sum', in the pinned program and in every row, IS THE sha256 OF THE DUMP (.gsa) THAT Qxb6000665aProg.lean LOADS. Nothing in Lean hashes anything: it is a label: what it is worth is what the hold of that sum in a sandbox is worth. -/
noncomputable def Try.pinned : Pinned := { name := "qxb6000665a", sum := "fc1d241493464ab8024e9e0bbe2aaaeecd24c3a7d807ee0f36a70e29022a4c10", checked := Try.checked }
namespace Rows
def none {H : Type} : Left H := { results := [], args := [] }

/-- 'zzlaws_internal_book_b1.FnLowestMatchesScaleWalk': WHATEVER THE INPUT: true; the input reads as it did. -/
def fnLowestMatchesScaleWalkSpec : ChangeSpec := { name := "fnLowestMatchesScaleWalk", fn := fun _ => fun
  | [d1, d2, d3, d4] => { results := [.lit (.bool true)], args := [d1, d2, d3, d4] }
  | _ => none }
def fnLowestMatchesScaleWalkRow : OpenClaim := { program := "qxb6000665a", sum := "fc1d241493464ab8024e9e0bbe2aaaeecd24c3a7d807ee0f36a70e29022a4c10", func := "example.com/tuoguan/tuoguan/zzlaws_internal_book_b1.FnLowestMatchesScaleWalk", spec := "fnLowestMatchesScaleWalk", apart := false }
def FnLowestMatchesScaleWalkSaid : Prop := fnLowestMatchesScaleWalkRow.holds Try.pinned (OpenSpec.ofChange fnLowestMatchesScaleWalkSpec)

/-- ITS FALSE NEIGHBOUR: 'it returns false'. Refute it at one input. -/
def fnLowestMatchesScaleWalkWrong : ChangeSpec := { name := "fnLowestMatchesScaleWalk", fn := fun _ => fun
  | [d1, d2, d3, d4] => { results := [.lit (.bool false)], args := [d1, d2, d3, d4] }
  | _ => none }
def FnLowestMatchesScaleWalkWrongFalsely : Prop := fnLowestMatchesScaleWalkRow.holds Try.pinned (OpenSpec.ofChange fnLowestMatchesScaleWalkWrong)

/-- 'zzlaws_internal_book_b1.FnLowestOrderFree': WHATEVER THE INPUT: true; the input reads as it did. -/
def fnLowestOrderFreeSpec : ChangeSpec := { name := "fnLowestOrderFree", fn := fun _ => fun
  | [d1, d2, d3, d4] => { results := [.lit (.bool true)], args := [d1, d2, d3, d4] }
  | _ => none }
def fnLowestOrderFreeRow : OpenClaim := { program := "qxb6000665a", sum := "fc1d241493464ab8024e9e0bbe2aaaeecd24c3a7d807ee0f36a70e29022a4c10", func := "example.com/tuoguan/tuoguan/zzlaws_internal_book_b1.FnLowestOrderFree", spec := "fnLowestOrderFree", apart := false }
def FnLowestOrderFreeSaid : Prop := fnLowestOrderFreeRow.holds Try.pinned (OpenSpec.ofChange fnLowestOrderFreeSpec)

/-- ITS FALSE NEIGHBOUR: 'it returns false'. Refute it at one input. -/
def fnLowestOrderFreeWrong : ChangeSpec := { name := "fnLowestOrderFree", fn := fun _ => fun
  | [d1, d2, d3, d4] => { results := [.lit (.bool false)], args := [d1, d2, d3, d4] }
  | _ => none }
def FnLowestOrderFreeWrongFalsely : Prop := fnLowestOrderFreeRow.holds Try.pinned (OpenSpec.ofChange fnLowestOrderFreeWrong)

/-- 'zzlaws_internal_book_b1.FnLowestMonotone': WHATEVER THE INPUT: true; the input reads as it did. -/
def fnLowestMonotoneSpec : ChangeSpec := { name := "fnLowestMonotone", fn := fun _ => fun
  | [d1, d2, d3, d4, d5, d6] => { results := [.lit (.bool true)], args := [d1, d2, d3, d4, d5, d6] }
  | _ => none }
def fnLowestMonotoneRow : OpenClaim := { program := "qxb6000665a", sum := "fc1d241493464ab8024e9e0bbe2aaaeecd24c3a7d807ee0f36a70e29022a4c10", func := "example.com/tuoguan/tuoguan/zzlaws_internal_book_b1.FnLowestMonotone", spec := "fnLowestMonotone", apart := false }
def FnLowestMonotoneSaid : Prop := fnLowestMonotoneRow.holds Try.pinned (OpenSpec.ofChange fnLowestMonotoneSpec)

/-- ITS FALSE NEIGHBOUR: 'it returns false'. Refute it at one input. -/
def fnLowestMonotoneWrong : ChangeSpec := { name := "fnLowestMonotone", fn := fun _ => fun
  | [d1, d2, d3, d4, d5, d6] => { results := [.lit (.bool false)], args := [d1, d2, d3, d4, d5, d6] }
  | _ => none }
def FnLowestMonotoneWrongFalsely : Prop := fnLowestMonotoneRow.holds Try.pinned (OpenSpec.ofChange fnLowestMonotoneWrong)

/-- 'zzlaws_internal_book_b1.FnFieldAtMatchesSplit': WHATEVER THE INPUT: true; the input reads as it did. -/
def fnFieldAtMatchesSplitSpec : ChangeSpec := { name := "fnFieldAtMatchesSplit", fn := fun _ => fun
  | [d1, d2] => { results := [.lit (.bool true)], args := [d1, d2] }
  | _ => none }
def fnFieldAtMatchesSplitRow : OpenClaim := { program := "qxb6000665a", sum := "fc1d241493464ab8024e9e0bbe2aaaeecd24c3a7d807ee0f36a70e29022a4c10", func := "example.com/tuoguan/tuoguan/zzlaws_internal_book_b1.FnFieldAtMatchesSplit", spec := "fnFieldAtMatchesSplit", inPlace := ["internal/bytealg.IndexByte"], apart := false }
def FnFieldAtMatchesSplitSaid : Prop := fnFieldAtMatchesSplitRow.holds Try.pinned (OpenSpec.ofChange fnFieldAtMatchesSplitSpec)

/-- ITS FALSE NEIGHBOUR: 'it returns false'. Refute it at one input. -/
def fnFieldAtMatchesSplitWrong : ChangeSpec := { name := "fnFieldAtMatchesSplit", fn := fun _ => fun
  | [d1, d2] => { results := [.lit (.bool false)], args := [d1, d2] }
  | _ => none }
def FnFieldAtMatchesSplitWrongFalsely : Prop := fnFieldAtMatchesSplitRow.holds Try.pinned (OpenSpec.ofChange fnFieldAtMatchesSplitWrong)

/-- 'zzlaws_internal_book_b1.FnFieldAtJoinRoundTrip': WHATEVER THE INPUT: true; the input reads as it did. -/
def fnFieldAtJoinRoundTripSpec : ChangeSpec := { name := "fnFieldAtJoinRoundTrip", fn := fun _ => fun
  | [d1, d2, d3] => { results := [.lit (.bool true)], args := [d1, d2, d3] }
  | _ => none }
def fnFieldAtJoinRoundTripRow : OpenClaim := { program := "qxb6000665a", sum := "fc1d241493464ab8024e9e0bbe2aaaeecd24c3a7d807ee0f36a70e29022a4c10", func := "example.com/tuoguan/tuoguan/zzlaws_internal_book_b1.FnFieldAtJoinRoundTrip", spec := "fnFieldAtJoinRoundTrip", inPlace := ["internal/bytealg.IndexByte"], apart := false }
def FnFieldAtJoinRoundTripSaid : Prop := fnFieldAtJoinRoundTripRow.holds Try.pinned (OpenSpec.ofChange fnFieldAtJoinRoundTripSpec)

/-- ITS FALSE NEIGHBOUR: 'it returns false'. Refute it at one input. -/
def fnFieldAtJoinRoundTripWrong : ChangeSpec := { name := "fnFieldAtJoinRoundTrip", fn := fun _ => fun
  | [d1, d2, d3] => { results := [.lit (.bool false)], args := [d1, d2, d3] }
  | _ => none }
def FnFieldAtJoinRoundTripWrongFalsely : Prop := fnFieldAtJoinRoundTripRow.holds Try.pinned (OpenSpec.ofChange fnFieldAtJoinRoundTripWrong)

end Rows
end Go.Proofs.Qxb6000665a
