/-
  NARROWER THAN 'FOR EVERY INPUT', by the rows' own cells (each row's printed sentence says how): FnDescribesIsReflexiveSymmetricAndBlindToExpiry: maps · FnDescribesTellsEachMemberApart: maps.
  DERIVED. THE GIVEN ROWS OF THIS SEAT. 2 by the template 'for every input the law returns true; each argument reads behind the call as it read before'; 0 by the template 'total and deterministic' (their statements: Qxb6615214aTotals.lean).
  GIVEN WITH THE SEED: the statements are not yours to turn. If you find one false, say at which input.
  Laid BY PROGRAM, IN A SANDBOX (cutbox-rows.mjs): the forced cells as the released guide's own fill.sh prints them over the translation 35543b5f5a9c9012… (all of the seat's roots in one cut). By AI agents, Wed Nov 11 2026. No macro, syntax, notation, axiom, sorry.
-/
import Derived.Test.Qxb6615214aChecked
import GoSem.Claim
import GoSem.ClaimJoined
import GoSem.ClaimMapViews
import Derived.JoinedTies
import Derived.KernelRfl
namespace Go.Proofs.Qxb6615214a
/- THE CELL 'sum', in the pinned program and in every row, IS THE sha256 OF THE DUMP (.gsa) THAT Qxb6615214aProg.lean LOADS. Nothing in Lean hashes anything: it is a label: what it is worth is what the hold of that sum in a sandbox is worth. -/
noncomputable def Try.pinned : Pinned := { name := "qxb6615214a", sum := "35543b5f5a9c90124d7db9be38e3b03964e3168d5bac9aa95189ea055ef1fc3f", checked := Try.checked }
namespace Rows
def none {H : Type} : Left H := { results := [], args := [] }

/-- 'zzlaws_root_b1.FnDescribesIsReflexiveSymmetricAndBlindToExpiry': WHATEVER THE INPUT: true; the input reads as it did. -/
def fnDescribesIsReflexiveSymmetricAndBlindToExpirySpec : ChangeSpec := { name := "fnDescribesIsReflexiveSymmetricAndBlindToExpiry", fn := fun _ => fun
  | [d1, d2, d3, d4, d5, d6, d7, d8, d9, d10, d11, d12] => { results := [.lit (.bool true)], args := [d1, d2, d3, d4, d5, d6, d7, d8, d9, d10, d11, d12] }
  | _ => none }
def fnDescribesIsReflexiveSymmetricAndBlindToExpiryRow : OpenClaim := { program := "qxb6615214a", sum := "35543b5f5a9c90124d7db9be38e3b03964e3168d5bac9aa95189ea055ef1fc3f", func := "example.com/signlect/signlect/zzlaws_root_b1.FnDescribesIsReflexiveSymmetricAndBlindToExpiry", spec := "fnDescribesIsReflexiveSymmetricAndBlindToExpiry", maps := true, apart := false }
def FnDescribesIsReflexiveSymmetricAndBlindToExpirySaid : Prop := fnDescribesIsReflexiveSymmetricAndBlindToExpiryRow.holds Try.pinned (OpenSpec.ofChange fnDescribesIsReflexiveSymmetricAndBlindToExpirySpec)

/-- ITS FALSE NEIGHBOUR: 'it returns false'. Refute it at one input. -/
def fnDescribesIsReflexiveSymmetricAndBlindToExpiryWrong : ChangeSpec := { name := "fnDescribesIsReflexiveSymmetricAndBlindToExpiry", fn := fun _ => fun
  | [d1, d2, d3, d4, d5, d6, d7, d8, d9, d10, d11, d12] => { results := [.lit (.bool false)], args := [d1, d2, d3, d4, d5, d6, d7, d8, d9, d10, d11, d12] }
  | _ => none }
def FnDescribesIsReflexiveSymmetricAndBlindToExpiryWrongFalsely : Prop := fnDescribesIsReflexiveSymmetricAndBlindToExpiryRow.holds Try.pinned (OpenSpec.ofChange fnDescribesIsReflexiveSymmetricAndBlindToExpiryWrong)

/-- 'zzlaws_root_b1.FnDescribesTellsEachMemberApart': WHATEVER THE INPUT: true; the input reads as it did. -/
def fnDescribesTellsEachMemberApartSpec : ChangeSpec := { name := "fnDescribesTellsEachMemberApart", fn := fun _ => fun
  | [d1, d2, d3, d4, d5, d6, d7, d8, d9, d10] => { results := [.lit (.bool true)], args := [d1, d2, d3, d4, d5, d6, d7, d8, d9, d10] }
  | _ => none }
def fnDescribesTellsEachMemberApartRow : OpenClaim := { program := "qxb6615214a", sum := "35543b5f5a9c90124d7db9be38e3b03964e3168d5bac9aa95189ea055ef1fc3f", func := "example.com/signlect/signlect/zzlaws_root_b1.FnDescribesTellsEachMemberApart", spec := "fnDescribesTellsEachMemberApart", maps := true, apart := false }
def FnDescribesTellsEachMemberApartSaid : Prop := fnDescribesTellsEachMemberApartRow.holds Try.pinned (OpenSpec.ofChange fnDescribesTellsEachMemberApartSpec)

/-- ITS FALSE NEIGHBOUR: 'it returns false'. Refute it at one input. -/
def fnDescribesTellsEachMemberApartWrong : ChangeSpec := { name := "fnDescribesTellsEachMemberApart", fn := fun _ => fun
  | [d1, d2, d3, d4, d5, d6, d7, d8, d9, d10] => { results := [.lit (.bool false)], args := [d1, d2, d3, d4, d5, d6, d7, d8, d9, d10] }
  | _ => none }
def FnDescribesTellsEachMemberApartWrongFalsely : Prop := fnDescribesTellsEachMemberApartRow.holds Try.pinned (OpenSpec.ofChange fnDescribesTellsEachMemberApartWrong)

end Rows
end Go.Proofs.Qxb6615214a
