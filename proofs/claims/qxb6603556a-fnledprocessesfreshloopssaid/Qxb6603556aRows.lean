/-
  No cell of these rows narrows 'for every input' (looked for: loops, veiled, ifaces, maps, wideKeys, modest, calm, conditions, laid).
  DERIVED. THE GIVEN ROWS OF THIS SEAT. 1 by the template 'for every input the law returns true; each argument reads behind the call as it read before'; 0 by the template 'total and deterministic' (their statements: Qxb6603556aTotals.lean).
  GIVEN WITH THE SEED: the statements are not yours to turn. If you find one false, say at which input.
  Laid BY PROGRAM, IN A SANDBOX (cutbox-rows.mjs): the forced cells as the released guide's own fill.sh prints them over the translation 2977c077f3266a7d… (all of the seat's roots in one cut). By AI agents, Wed Nov 11 2026. No macro, syntax, notation, axiom, sorry.
-/
import Derived.Test.Qxb6603556aChecked
import GoSem.Claim
import GoSem.ClaimJoined
import GoSem.ClaimMapViews
import Derived.JoinedTies
import Derived.KernelRfl
namespace Go.Proofs.Qxb6603556a
/- THE CELL 'sum', in the pinned program and in every row, IS THE sha256 OF THE DUMP (.gsa) THAT Qxb6603556aProg.lean LOADS. Nothing in Lean hashes anything: it is a label: what it is worth is what the hold of that sum in a sandbox is worth. -/
noncomputable def Try.pinned : Pinned := { name := "qxb6603556a", sum := "2977c077f3266a7d10e1a950642ef8a9b63af8225c7fca1cfecfd16d8161f47c", checked := Try.checked }
namespace Rows
def none {H : Type} : Left H := { results := [], args := [] }

/-- 'zzlaws_protocols_alpha_b1.FnLedProcessesFreshLoops': WHATEVER THE INPUT: true; the input reads as it did. -/
def fnLedProcessesFreshLoopsSpec : ChangeSpec := { name := "fnLedProcessesFreshLoops", fn := fun _ => fun
  | [d1, d2, d3, d4] => { results := [.lit (.bool true)], args := [d1, d2, d3, d4] }
  | _ => none }
def fnLedProcessesFreshLoopsRow : OpenClaim := { program := "qxb6603556a", sum := "2977c077f3266a7d10e1a950642ef8a9b63af8225c7fca1cfecfd16d8161f47c", func := "example.com/synodic/synodic/zzlaws_protocols_alpha_b1.FnLedProcessesFreshLoops", spec := "fnLedProcessesFreshLoops", apart := false }
def FnLedProcessesFreshLoopsSaid : Prop := fnLedProcessesFreshLoopsRow.holds Try.pinned (OpenSpec.ofChange fnLedProcessesFreshLoopsSpec)

/-- ITS FALSE NEIGHBOUR: 'it returns false'. Refute it at one input. -/
def fnLedProcessesFreshLoopsWrong : ChangeSpec := { name := "fnLedProcessesFreshLoops", fn := fun _ => fun
  | [d1, d2, d3, d4] => { results := [.lit (.bool false)], args := [d1, d2, d3, d4] }
  | _ => none }
def FnLedProcessesFreshLoopsWrongFalsely : Prop := fnLedProcessesFreshLoopsRow.holds Try.pinned (OpenSpec.ofChange fnLedProcessesFreshLoopsWrong)

end Rows
end Go.Proofs.Qxb6603556a
