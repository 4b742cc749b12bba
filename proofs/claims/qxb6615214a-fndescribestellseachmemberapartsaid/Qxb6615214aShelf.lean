/-
  maps.Equal's contract off the shelf, laid at this dump's numbers (in plain words): function 7, map type 22, key and element type 9, the pair (string, bool) 31.
-/
import Derived.Test.Qxb6615214aRows
import Derived.Test.Qxb6615214aPlain
import Derived.Shelf.SlMaps.Equal
import Derived.Maps.StringElems
import Derived.WalkKit
namespace Go.Proofs.Qxb6615214a
open Go.Shelf Go.Maps Go.RowKit

def eqRen : Ren := ⟨fun | 6 => 7 | n => n, fun | 23 => 22 | 24 => 22 | 26 => 9 | 27 => 9 | 36 => 31 | n => n, fun n => n⟩

theorem eqS : SlLaysEq.n6 Try.prog eqRen := {
  mixed := by kernel_rfl
  f6 := ⟨Try.f7.name, by kernel_rfl, Try.func7.trans (congrArg some (by kernel_rfl))⟩
  t0 := Try.underlying0
  a0 := Try.isAgg0
  z0 := Try.sizeOf0
  v0 := Try.zeroValue0
  t3 := Try.underlying3
  a3 := Try.isAgg3
  z3 := Try.sizeOf3
  v3 := Try.zeroValue3
  t4 := Try.underlying4
  a4 := Try.isAgg4
  z4 := Try.sizeOf4
  v4 := Try.zeroValue4
  t23 := Try.underlying22
  a23 := Try.isAgg22
  z23 := Try.sizeOf22
  v23 := Try.zeroValue22
  t24 := Try.underlying22
  a24 := Try.isAgg22
  z24 := Try.sizeOf22
  v24 := Try.zeroValue22
  a26 := Try.isAgg9
  z26 := Try.sizeOf9
  a27 := Try.isAgg9
  z27 := Try.sizeOf9
  t36 := Try.underlying31
  a36 := Try.isAgg31
  z36 := Try.sizeOf31 }

theorem law9 : Keyed Try.prog 9 := string_keyed Try.underlying9

/-- A map of strings that is read, nil or not, in this world. -/
def Src {H : Type} (w : World) (p : Option Nat) (D : DataW H) : Prop := SrcOf Try.prog 9 (plainElem Try.prog 9) w p D

theorem Src.kept {H : Type} {w w' : World} {p : Option Nat} {D : DataW H} (h : Src w p D) (hg : w.grownBy w' none) : Src w' p D := SrcOf.kept h hg (by cases p <;> simp)

theorem neq_string {H : Type} (W : World) (x y : Value) (xd yd : DataW H) (xp yp : List MemPlace) (hx : plainElem Try.prog 9 x = some (xd, xp)) (hy : plainElem Try.prog 9 y = some (yd, yp)) :
    (binOp .neq 9 x y).run Try.prog W = .ok (.bool (!sameS xd yd)) W ∧ ∀ (a b : Operand), (eqGuard .neq 9 a b x y).run Try.prog W = .ok () W := by
  obtain ⟨a, rfl, h1, _⟩ := plainElem_string_inv Try.underlying9 hx
  obtain ⟨b, rfl, h2, _⟩ := plainElem_string_inv Try.underlying9 hy
  obtain rfl : xd = .lit (.string a.data.toList) := by simpa using (congrArg Prod.fst h1)
  obtain rfl : yd = .lit (.string b.data.toList) := by simpa using (congrArg Prod.fst h2)
  refine ⟨?_, fun _ _ => by rw [eqGuard_at_string]; rfl⟩
  rw [binOp_string_neq, ByteArray.toList_eq, ByteArray.toList_eq]
  rfl

theorem equal7 {H : Type} (p1 p2 : Option Nat) (D1 D2 : DataW H) (w : World) (h1 : Src w p1 D1) (h2 : Src w p2 D2) :
    Calls Try.prog 7 #[.map p1, .map p2] w (fun e w' => e = .returned (.bool (Lib.equalFuncD sameS D1 D2)) ∧ w.grownBy w' none) :=
  AnyEq.maps_Equal_opt eqS law9 (plainElem Try.prog 9) (plainElem Try.prog 9) sameS p1 p2 D1 D2 w h1 h2 (.string ByteArray.empty) Try.zeroValue9 (.lit (.string [])) [] (plainElem_string Try.underlying9 (by decide)) neq_string
/-- What such a map reads as. -/
theorem Src.texts {H : Type} {w : World} {p : Option Nat} {D : DataW H} (h : Src w p D) : Texts D := by
  rcases h with ⟨rfl, rfl⟩ | ⟨b, n, rfl, ho⟩
  · exact texts_nil
  · refine ⟨.inr (ho.canon law9), ?_⟩
    obtain ⟨es, clock, _, F, _, rfl⟩ := ho
    intro q hq
    obtain ⟨x, hx, rfl⟩ := List.mem_map.1 (mem_sorted.1 hq)
    obtain ⟨y, hy⟩ := F.reads x hx
    rw [WideElems.rg_of hy]
    obtain ⟨z, hz, e⟩ := WideElems.rd_val hy
    obtain ⟨s, _, rfl, _⟩ := plainElem_string_inv Try.underlying9 hz
    exact ⟨_, e⟩
end Go.Proofs.Qxb6615214a
