/-
  No cell of these rows narrows 'for every input' (looked for: loops, veiled, ifaces, maps, wideKeys, modest, calm, conditions, laid).
  DERIVED. THE GIVEN ROWS OF THIS SEAT. 2 by the template 'for every input the law returns true; each argument reads behind the call as it read before'; 0 by the template 'total and deterministic' (their statements: Qxb6616469aTotals.lean).
  GIVEN WITH THE SEED: the statements are not yours to turn. If you find one false, say at which input.
  Laid BY PROGRAM, IN A SANDBOX (cutbox-rows.mjs): the forced cells as the released guide's own fill.sh prints them over the translation 15aa14fd0911ec03… (all of the seat's roots in one cut). By AI agents, Wed Nov 11 2026. No macro, syntax, notation, axiom, sorry.
-/
import Derived.Test.Qxb6616469aChecked
import GoSem.Claim
import GoSem.ClaimJoined
import GoSem.ClaimMapViews
import Derived.JoinedTies
import Derived.KernelRfl
namespace Go.Proofs.Qxb6616469a
/- THE CELL 'sum', in the pinned program and in every row, IS THE sha256 OF THE DUMP (.gsa) THAT Qxb6616469aProg.lean LOADS. Nothing in Lean hashes anything: it is a label: what it is worth is what the hold of that sum in a sandbox is worth. -/
noncomputable def Try.pinned : Pinned := { name := "qxb6616469a", sum := "15aa14fd0911ec03a35d48ef61153883b236f0db000a4f58aa03ce09894c53e6", checked := Try.checked }
namespace Rows
def none {H : Type} : Left H := { results := [], args := [] }

/-- 'zzlaws_root_b1.FnBaseNameUnderAnyDirectory': WHATEVER THE INPUT: true; the input reads as it did. -/
def fnBaseNameUnderAnyDirectorySpec : ChangeSpec := { name := "fnBaseNameUnderAnyDirectory", fn := fun _ => fun
  | [d1, d2] => { results := [.lit (.bool true)], args := [d1, d2] }
  | _ => none }
def fnBaseNameUnderAnyDirectoryRow : OpenClaim := { program := "qxb6616469a", sum := "15aa14fd0911ec03a35d48ef61153883b236f0db000a4f58aa03ce09894c53e6", func := "example.com/holdall/holdall/zzlaws_root_b1.FnBaseNameUnderAnyDirectory", spec := "fnBaseNameUnderAnyDirectory", apart := false }
def FnBaseNameUnderAnyDirectorySaid : Prop := fnBaseNameUnderAnyDirectoryRow.holds Try.pinned (OpenSpec.ofChange fnBaseNameUnderAnyDirectorySpec)

/-- ITS FALSE NEIGHBOUR: 'it returns false'. Refute it at one input. -/
def fnBaseNameUnderAnyDirectoryWrong : ChangeSpec := { name := "fnBaseNameUnderAnyDirectory", fn := fun _ => fun
  | [d1, d2] => { results := [.lit (.bool false)], args := [d1, d2] }
  | _ => none }
def FnBaseNameUnderAnyDirectoryWrongFalsely : Prop := fnBaseNameUnderAnyDirectoryRow.holds Try.pinned (OpenSpec.ofChange fnBaseNameUnderAnyDirectoryWrong)

/-- 'zzlaws_root_b1.FnBaseNameAtAnyCut': WHATEVER THE INPUT: true; the input reads as it did. -/
def fnBaseNameAtAnyCutSpec : ChangeSpec := { name := "fnBaseNameAtAnyCut", fn := fun _ => fun
  | [d1, d2] => { results := [.lit (.bool true)], args := [d1, d2] }
  | _ => none }
def fnBaseNameAtAnyCutRow : OpenClaim := { program := "qxb6616469a", sum := "15aa14fd0911ec03a35d48ef61153883b236f0db000a4f58aa03ce09894c53e6", func := "example.com/holdall/holdall/zzlaws_root_b1.FnBaseNameAtAnyCut", spec := "fnBaseNameAtAnyCut", apart := false }
def FnBaseNameAtAnyCutSaid : Prop := fnBaseNameAtAnyCutRow.holds Try.pinned (OpenSpec.ofChange fnBaseNameAtAnyCutSpec)

/-- ITS FALSE NEIGHBOUR: 'it returns false'. Refute it at one input. -/
def fnBaseNameAtAnyCutWrong : ChangeSpec := { name := "fnBaseNameAtAnyCut", fn := fun _ => fun
  | [d1, d2] => { results := [.lit (.bool false)], args := [d1, d2] }
  | _ => none }
def FnBaseNameAtAnyCutWrongFalsely : Prop := fnBaseNameAtAnyCutRow.holds Try.pinned (OpenSpec.ofChange fnBaseNameAtAnyCutWrong)

end Rows
end Go.Proofs.Qxb6616469a
