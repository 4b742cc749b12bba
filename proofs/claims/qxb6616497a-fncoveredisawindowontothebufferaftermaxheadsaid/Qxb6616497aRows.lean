/-
  No cell of these rows narrows 'for every input' (looked for: loops, veiled, ifaces, maps, wideKeys, modest, calm, conditions, laid).
  DERIVED. THE GIVEN ROWS OF THIS SEAT. 1 by the template 'for every input the law returns true; each argument reads behind the call as it read before'; 0 by the template 'total and deterministic' (their statements: Qxb6616497aTotals.lean).
  GIVEN WITH THE SEED: the statements are not yours to turn. If you find one false, say at which input.
  Laid BY PROGRAM, IN A SANDBOX (cutbox-rows.mjs): the forced cells as the released guide's own fill.sh prints them over the translation d64bf956ca9e79e7… (all of the seat's roots in one cut). By AI agents, Wed Nov 11 2026. No macro, syntax, notation, axiom, sorry.
-/
import Derived.Test.Qxb6616497aChecked
import GoSem.Claim
import GoSem.ClaimJoined
import GoSem.ClaimMapViews
import Derived.JoinedTies
import Derived.KernelRfl
namespace Go.Proofs.Qxb6616497a
/- THE CELL 'sum', in the pinned program and in every row, IS THE sha256 OF THE DUMP (.gsa) THAT Qxb6616497aProg.lean LOADS. Nothing in Lean hashes anything: it is a label: what it is worth is what the hold of that sum in a sandbox is worth. -/
noncomputable def Try.pinned : Pinned := { name := "qxb6616497a", sum := "d64bf956ca9e79e73431ffe60e164ff3ae77a86a13603e29ea5325aa340defc0", checked := Try.checked }
namespace Rows
def none {H : Type} : Left H := { results := [], args := [] }

/-- 'zzlaws_internal_forwarder_b1.FnCoveredIsAWindowOntoTheBufferAfterMaxHead': WHATEVER THE INPUT: true; the input reads as it did. -/
def fnCoveredIsAWindowOntoTheBufferAfterMaxHeadSpec : ChangeSpec := { name := "fnCoveredIsAWindowOntoTheBufferAfterMaxHead", fn := fun _ => fun
  | [d1, d2, d3] => { results := [.lit (.bool true)], args := [d1, d2, d3] }
  | _ => none }
def fnCoveredIsAWindowOntoTheBufferAfterMaxHeadRow : OpenClaim := { program := "qxb6616497a", sum := "d64bf956ca9e79e73431ffe60e164ff3ae77a86a13603e29ea5325aa340defc0", func := "example.com/cairnkeep/cairnkeep/zzlaws_internal_forwarder_b1.FnCoveredIsAWindowOntoTheBufferAfterMaxHead", spec := "fnCoveredIsAWindowOntoTheBufferAfterMaxHead", apart := false }
def FnCoveredIsAWindowOntoTheBufferAfterMaxHeadSaid : Prop := fnCoveredIsAWindowOntoTheBufferAfterMaxHeadRow.holds Try.pinned (OpenSpec.ofChange fnCoveredIsAWindowOntoTheBufferAfterMaxHeadSpec)

/-- ITS FALSE NEIGHBOUR: 'it returns false'. Refute it at one input. -/
def fnCoveredIsAWindowOntoTheBufferAfterMaxHeadWrong : ChangeSpec := { name := "fnCoveredIsAWindowOntoTheBufferAfterMaxHead", fn := fun _ => fun
  | [d1, d2, d3] => { results := [.lit (.bool false)], args := [d1, d2, d3] }
  | _ => none }
def FnCoveredIsAWindowOntoTheBufferAfterMaxHeadWrongFalsely : Prop := fnCoveredIsAWindowOntoTheBufferAfterMaxHeadRow.holds Try.pinned (OpenSpec.ofChange fnCoveredIsAWindowOntoTheBufferAfterMaxHeadWrong)

end Rows
end Go.Proofs.Qxb6616497a
