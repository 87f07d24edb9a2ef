/-
  No cell of these rows narrows 'for every input' (looked for: loops, veiled, ifaces, maps, wideKeys, modest, calm, conditions, laid).
  DERIVED. THE GIVEN ROWS OF THIS SEAT. 6 by the template 'for every input the law returns true; each argument reads behind the call as it read before'; 0 by the template 'total and deterministic' (their statements: Qxb6602895aTotals.lean).
  GIVEN WITH THE SEED: the statements are not yours to turn. If you find one false, say at which input.
  Laid BY PROGRAM, IN A SANDBOX (cutbox-rows.mjs): the forced cells as the released guide's own fill.sh prints them over the translation 21f5fb2c85559a6b… (all of the seat's roots in one cut). By AI agents, Wed Nov 11 2026. No macro, syntax, notation, axiom, sorry.
-/
import Derived.Test.Qxb6602895aChecked
import GoSem.Claim
import GoSem.ClaimJoined
import GoSem.ClaimMapViews
import Derived.JoinedTies
import Derived.KernelRfl
namespace Go.Proofs.Qxb6602895a
/- THE CELL 'sum', in the pinned program and in every row, IS THE sha256 OF THE DUMP (.gsa) THAT Qxb6602895aProg.lean LOADS. Nothing in Lean hashes anything: it is a label: what it is worth is what the hold of that sum in a sandbox is worth. -/
noncomputable def Try.pinned : Pinned := { name := "qxb6602895a", sum := "21f5fb2c85559a6bfbe31c22d683a6c4dd366f6950ebab2e9914023f5b6aa14e", checked := Try.checked }
namespace Rows
def none {H : Type} : Left H := { results := [], args := [] }

/-- 'zzlaws_pkg_number_b1.FnPlainMatchesGrammar': WHATEVER THE INPUT: true; the input reads as it did. -/
def fnPlainMatchesGrammarSpec : ChangeSpec := { name := "fnPlainMatchesGrammar", fn := fun _ => fun
  | [d] => { results := [.lit (.bool true)], args := [d] }
  | _ => none }
def fnPlainMatchesGrammarRow : OpenClaim := { program := "qxb6602895a", sum := "21f5fb2c85559a6bfbe31c22d683a6c4dd366f6950ebab2e9914023f5b6aa14e", func := "example.com/zhaomu/zhaomu/zzlaws_pkg_number_b1.FnPlainMatchesGrammar", spec := "fnPlainMatchesGrammar", unfollowed := true, recurses := true, apart := false }
def FnPlainMatchesGrammarSaid : Prop := fnPlainMatchesGrammarRow.holds Try.pinned (OpenSpec.ofChange fnPlainMatchesGrammarSpec)

/-- ITS FALSE NEIGHBOUR: 'it returns false'. Refute it at one input. -/
def fnPlainMatchesGrammarWrong : ChangeSpec := { name := "fnPlainMatchesGrammar", fn := fun _ => fun
  | [d] => { results := [.lit (.bool false)], args := [d] }
  | _ => none }
def FnPlainMatchesGrammarWrongFalsely : Prop := fnPlainMatchesGrammarRow.holds Try.pinned (OpenSpec.ofChange fnPlainMatchesGrammarWrong)

/-- 'zzlaws_pkg_number_b1.FnPlainSign': WHATEVER THE INPUT: true; the input reads as it did. -/
def fnPlainSignSpec : ChangeSpec := { name := "fnPlainSign", fn := fun _ => fun
  | [d] => { results := [.lit (.bool true)], args := [d] }
  | _ => none }
def fnPlainSignRow : OpenClaim := { program := "qxb6602895a", sum := "21f5fb2c85559a6bfbe31c22d683a6c4dd366f6950ebab2e9914023f5b6aa14e", func := "example.com/zhaomu/zhaomu/zzlaws_pkg_number_b1.FnPlainSign", spec := "fnPlainSign", unfollowed := true, recurses := true, apart := false }
def FnPlainSignSaid : Prop := fnPlainSignRow.holds Try.pinned (OpenSpec.ofChange fnPlainSignSpec)

/-- ITS FALSE NEIGHBOUR: 'it returns false'. Refute it at one input. -/
def fnPlainSignWrong : ChangeSpec := { name := "fnPlainSign", fn := fun _ => fun
  | [d] => { results := [.lit (.bool false)], args := [d] }
  | _ => none }
def FnPlainSignWrongFalsely : Prop := fnPlainSignRow.holds Try.pinned (OpenSpec.ofChange fnPlainSignWrong)

/-- 'zzlaws_pkg_number_b1.FnPlainAcceptsRendering': WHATEVER THE INPUT: true; the input reads as it did. -/
def fnPlainAcceptsRenderingSpec : ChangeSpec := { name := "fnPlainAcceptsRendering", fn := fun _ => fun
  | [d1, d2] => { results := [.lit (.bool true)], args := [d1, d2] }
  | _ => none }
def fnPlainAcceptsRenderingRow : OpenClaim := { program := "qxb6602895a", sum := "21f5fb2c85559a6bfbe31c22d683a6c4dd366f6950ebab2e9914023f5b6aa14e", func := "example.com/zhaomu/zhaomu/zzlaws_pkg_number_b1.FnPlainAcceptsRendering", spec := "fnPlainAcceptsRendering", unfollowed := true, recurses := true, apart := false }
def FnPlainAcceptsRenderingSaid : Prop := fnPlainAcceptsRenderingRow.holds Try.pinned (OpenSpec.ofChange fnPlainAcceptsRenderingSpec)

/-- ITS FALSE NEIGHBOUR: 'it returns false'. Refute it at one input. -/
def fnPlainAcceptsRenderingWrong : ChangeSpec := { name := "fnPlainAcceptsRendering", fn := fun _ => fun
  | [d1, d2] => { results := [.lit (.bool false)], args := [d1, d2] }
  | _ => none }
def FnPlainAcceptsRenderingWrongFalsely : Prop := fnPlainAcceptsRenderingRow.holds Try.pinned (OpenSpec.ofChange fnPlainAcceptsRenderingWrong)

/-- 'zzlaws_pkg_number_b1.FnDigitsExact': WHATEVER THE INPUT: true; the input reads as it did. -/
def fnDigitsExactSpec : ChangeSpec := { name := "fnDigitsExact", fn := fun _ => fun
  | [d] => { results := [.lit (.bool true)], args := [d] }
  | _ => none }
def fnDigitsExactRow : OpenClaim := { program := "qxb6602895a", sum := "21f5fb2c85559a6bfbe31c22d683a6c4dd366f6950ebab2e9914023f5b6aa14e", func := "example.com/zhaomu/zhaomu/zzlaws_pkg_number_b1.FnDigitsExact", spec := "fnDigitsExact", apart := false }
def FnDigitsExactSaid : Prop := fnDigitsExactRow.holds Try.pinned (OpenSpec.ofChange fnDigitsExactSpec)

/-- ITS FALSE NEIGHBOUR: 'it returns false'. Refute it at one input. -/
def fnDigitsExactWrong : ChangeSpec := { name := "fnDigitsExact", fn := fun _ => fun
  | [d] => { results := [.lit (.bool false)], args := [d] }
  | _ => none }
def FnDigitsExactWrongFalsely : Prop := fnDigitsExactRow.holds Try.pinned (OpenSpec.ofChange fnDigitsExactWrong)

/-- 'zzlaws_pkg_number_b1.FnDigitsRoundTrip': WHATEVER THE INPUT: true; the input reads as it did. -/
def fnDigitsRoundTripSpec : ChangeSpec := { name := "fnDigitsRoundTrip", fn := fun _ => fun
  | [d1, d2] => { results := [.lit (.bool true)], args := [d1, d2] }
  | _ => none }
def fnDigitsRoundTripRow : OpenClaim := { program := "qxb6602895a", sum := "21f5fb2c85559a6bfbe31c22d683a6c4dd366f6950ebab2e9914023f5b6aa14e", func := "example.com/zhaomu/zhaomu/zzlaws_pkg_number_b1.FnDigitsRoundTrip", spec := "fnDigitsRoundTrip", apart := false }
def FnDigitsRoundTripSaid : Prop := fnDigitsRoundTripRow.holds Try.pinned (OpenSpec.ofChange fnDigitsRoundTripSpec)

/-- ITS FALSE NEIGHBOUR: 'it returns false'. Refute it at one input. -/
def fnDigitsRoundTripWrong : ChangeSpec := { name := "fnDigitsRoundTrip", fn := fun _ => fun
  | [d1, d2] => { results := [.lit (.bool false)], args := [d1, d2] }
  | _ => none }
def FnDigitsRoundTripWrongFalsely : Prop := fnDigitsRoundTripRow.holds Try.pinned (OpenSpec.ofChange fnDigitsRoundTripWrong)

/-- 'zzlaws_pkg_number_b1.FnDigitsTrailingZero': WHATEVER THE INPUT: true; the input reads as it did. -/
def fnDigitsTrailingZeroSpec : ChangeSpec := { name := "fnDigitsTrailingZero", fn := fun _ => fun
  | [d] => { results := [.lit (.bool true)], args := [d] }
  | _ => none }
def fnDigitsTrailingZeroRow : OpenClaim := { program := "qxb6602895a", sum := "21f5fb2c85559a6bfbe31c22d683a6c4dd366f6950ebab2e9914023f5b6aa14e", func := "example.com/zhaomu/zhaomu/zzlaws_pkg_number_b1.FnDigitsTrailingZero", spec := "fnDigitsTrailingZero", apart := false }
def FnDigitsTrailingZeroSaid : Prop := fnDigitsTrailingZeroRow.holds Try.pinned (OpenSpec.ofChange fnDigitsTrailingZeroSpec)

/-- ITS FALSE NEIGHBOUR: 'it returns false'. Refute it at one input. -/
def fnDigitsTrailingZeroWrong : ChangeSpec := { name := "fnDigitsTrailingZero", fn := fun _ => fun
  | [d] => { results := [.lit (.bool false)], args := [d] }
  | _ => none }
def FnDigitsTrailingZeroWrongFalsely : Prop := fnDigitsTrailingZeroRow.holds Try.pinned (OpenSpec.ofChange fnDigitsTrailingZeroWrong)

end Rows
end Go.Proofs.Qxb6602895a
