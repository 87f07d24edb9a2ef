/-
  NARROWER THAN 'FOR EVERY INPUT', by the rows' own cells (each row's printed sentence says how): FnTreeSizeCountsNodesAndRunes: loops.
  DERIVED. THE GIVEN ROWS OF THIS SEAT. 3 by the template 'for every input the law returns true; each argument reads behind the call as it read before'; 0 by the template 'total and deterministic' (their statements: Qxb6603613aTotals.lean).
  GIVEN WITH THE SEED: the statements are not yours to turn. If you find one false, say at which input.
  Laid BY PROGRAM, IN A SANDBOX (cutbox-rows.mjs): the forced cells as the released guide's own fill.sh prints them over the translation 33e36ff3cc0f5766… (all of the seat's roots in one cut). By AI agents, Wed Nov 11 2026. No macro, syntax, notation, axiom, sorry.
-/
import Derived.Test.Qxb6603613aChecked
import GoSem.Claim
import GoSem.ClaimJoined
import GoSem.ClaimMapViews
import Derived.JoinedTies
import Derived.KernelRfl
namespace Go.Proofs.Qxb6603613a
/- THE CELL 'sum', in the pinned program and in every row, IS THE sha256 OF THE DUMP (.gsa) THAT Qxb6603613aProg.lean LOADS. Nothing in Lean hashes anything: it is a label: what it is worth is what the hold of that sum in a sandbox is worth. -/
noncomputable def Try.pinned : Pinned := { name := "qxb6603613a", sum := "33e36ff3cc0f5766385c1bf7eafd306a44b840e42e549d0fa7c8a05381046dbc", checked := Try.checked }
namespace Rows
def none {H : Type} : Left H := { results := [], args := [] }

/-- 'zzlaws_root_b1.FnMemberSetTagSlotRoundTrip': WHATEVER THE INPUT: true; the input reads as it did. -/
def fnMemberSetTagSlotRoundTripSpec : ChangeSpec := { name := "fnMemberSetTagSlotRoundTrip", fn := fun _ => fun
  | [d1, d2, d3, d4] => { results := [.lit (.bool true)], args := [d1, d2, d3, d4] }
  | _ => none }
def fnMemberSetTagSlotRoundTripRow : OpenClaim := { program := "qxb6603613a", sum := "33e36ff3cc0f5766385c1bf7eafd306a44b840e42e549d0fa7c8a05381046dbc", func := "example.com/opwright/opwright/zzlaws_root_b1.FnMemberSetTagSlotRoundTrip", spec := "fnMemberSetTagSlotRoundTrip", apart := false }
def FnMemberSetTagSlotRoundTripSaid : Prop := fnMemberSetTagSlotRoundTripRow.holds Try.pinned (OpenSpec.ofChange fnMemberSetTagSlotRoundTripSpec)

/-- ITS FALSE NEIGHBOUR: 'it returns false'. Refute it at one input. -/
def fnMemberSetTagSlotRoundTripWrong : ChangeSpec := { name := "fnMemberSetTagSlotRoundTrip", fn := fun _ => fun
  | [d1, d2, d3, d4] => { results := [.lit (.bool false)], args := [d1, d2, d3, d4] }
  | _ => none }
def FnMemberSetTagSlotRoundTripWrongFalsely : Prop := fnMemberSetTagSlotRoundTripRow.holds Try.pinned (OpenSpec.ofChange fnMemberSetTagSlotRoundTripWrong)

/-- 'zzlaws_root_b1.FnNewDecoderDefaultsAndReadsNothing': WHATEVER THE INPUT: true; the input reads as it did. -/
def fnNewDecoderDefaultsAndReadsNothingSpec : ChangeSpec := { name := "fnNewDecoderDefaultsAndReadsNothing", fn := fun _ => fun
  | [d] => { results := [.lit (.bool true)], args := [d] }
  | _ => none }
def fnNewDecoderDefaultsAndReadsNothingRow : OpenClaim := { program := "qxb6603613a", sum := "33e36ff3cc0f5766385c1bf7eafd306a44b840e42e549d0fa7c8a05381046dbc", func := "example.com/opwright/opwright/zzlaws_root_b1.FnNewDecoderDefaultsAndReadsNothing", spec := "fnNewDecoderDefaultsAndReadsNothing", unfollowed := true, recurses := true, apart := false }
def FnNewDecoderDefaultsAndReadsNothingSaid : Prop := fnNewDecoderDefaultsAndReadsNothingRow.holds Try.pinned (OpenSpec.ofChange fnNewDecoderDefaultsAndReadsNothingSpec)

/-- ITS FALSE NEIGHBOUR: 'it returns false'. Refute it at one input. -/
def fnNewDecoderDefaultsAndReadsNothingWrong : ChangeSpec := { name := "fnNewDecoderDefaultsAndReadsNothing", fn := fun _ => fun
  | [d] => { results := [.lit (.bool false)], args := [d] }
  | _ => none }
def FnNewDecoderDefaultsAndReadsNothingWrongFalsely : Prop := fnNewDecoderDefaultsAndReadsNothingRow.holds Try.pinned (OpenSpec.ofChange fnNewDecoderDefaultsAndReadsNothingWrong)

/-- 'zzlaws_root_b1.FnTreeSizeCountsNodesAndRunes': WHATEVER THE INPUT: true; the input reads as it did. -/
def fnTreeSizeCountsNodesAndRunesSpec : ChangeSpec := { name := "fnTreeSizeCountsNodesAndRunes", fn := fun _ => fun
  | [d] => { results := [.lit (.bool true)], args := [d] }
  | _ => none }
def fnTreeSizeCountsNodesAndRunesRow : OpenClaim := { program := "qxb6603613a", sum := "33e36ff3cc0f5766385c1bf7eafd306a44b840e42e549d0fa7c8a05381046dbc", func := "example.com/opwright/opwright/zzlaws_root_b1.FnTreeSizeCountsNodesAndRunes", spec := "fnTreeSizeCountsNodesAndRunes", recurses := true, loops := true, apart := false }
def FnTreeSizeCountsNodesAndRunesSaid : Prop := fnTreeSizeCountsNodesAndRunesRow.holds Try.pinned (OpenSpec.ofChange fnTreeSizeCountsNodesAndRunesSpec)

/-- ITS FALSE NEIGHBOUR: 'it returns false'. Refute it at one input. -/
def fnTreeSizeCountsNodesAndRunesWrong : ChangeSpec := { name := "fnTreeSizeCountsNodesAndRunes", fn := fun _ => fun
  | [d] => { results := [.lit (.bool false)], args := [d] }
  | _ => none }
def FnTreeSizeCountsNodesAndRunesWrongFalsely : Prop := fnTreeSizeCountsNodesAndRunesRow.holds Try.pinned (OpenSpec.ofChange fnTreeSizeCountsNodesAndRunesWrong)

end Rows
end Go.Proofs.Qxb6603613a
