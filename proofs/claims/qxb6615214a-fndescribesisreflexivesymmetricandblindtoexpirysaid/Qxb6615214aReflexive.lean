/-
  THE FIRST STATEMENT: 'each descriptor describes itself; symmetric; blind to the expiry ..': the law out of ZZDescribes' contract, then the row.
-/
import Derived.Test.Qxb6615214aLawA
import Derived.Maps.OwnSet
import Derived.ChangeMaps5
import Derived.ProofKit
import Derived.OpenShut
import Derived.ShutString
import Derived.ChangeOld
import Derived.Below
namespace Go.Proofs.Qxb6615214a.fnDescribesIsReflexive
open Go.ChangeShapes Go.WideShapes Go.ChangeAt Go.RowKit Go.WideElems Go.Maps
open Go.ChangeMaps (open_string shut_string)

theorem same_refl {H : Type} (a c m t : ByteArray) {D : DataW H} (h : Texts D) : same a c m t a c m t D D = true := by
  unfold same; rw [equal_refl h]; simp

theorem same_symm {H : Type} (a c m t a' c' m' t' : ByteArray) {D D' : DataW H} (h : Texts D) (h' : Texts D') : same a' c' m' t' a c m t D' D = same a c m t a' c' m' t' D D' := by
  unfold same
  rw [equal_symm h' h, BEq.comm (a := a'.toList), BEq.comm (a := c'.toList), BEq.comm (a := m'.toList), BEq.comm (a := t'.toList)]

theorem same_ways {H : Type} (a c m t a' c' m' t' : ByteArray) {D : DataW H} (D' : DataW H) (h : Texts D) (r s : Bool) (hr : same a c m t a' c' m' t' D D' = r) (hs : same a c m t a' c' m' t' D D = s) :
    ((a.toList == a'.toList) = false ∧ r = false ∧ s = false) ∨ ((a.toList == a'.toList) = true ∧ (c.toList == c'.toList) = false ∧ r = false ∧ s = false)
      ∨ ((a.toList == a'.toList) = true ∧ (c.toList == c'.toList) = true ∧ (m.toList == m'.toList) = false ∧ r = false ∧ s = false)
      ∨ ((a.toList == a'.toList) = true ∧ (c.toList == c'.toList) = true ∧ (m.toList == m'.toList) = true ∧ (t.toList == t'.toList) = false ∧ r = false ∧ s = false)
      ∨ ((a.toList == a'.toList) = true ∧ (c.toList == c'.toList) = true ∧ (m.toList == m'.toList) = true ∧ (t.toList == t'.toList) = true ∧ r = false ∧ s = true)
      ∨ ((a.toList == a'.toList) = true ∧ (c.toList == c'.toList) = true ∧ (m.toList == m'.toList) = true ∧ (t.toList == t'.toList) = true ∧ r = true ∧ s = true) := by
  unfold same at hr hs
  rw [equal_refl h] at hs
  subst hr hs
  generalize (a.toList == a'.toList) = A
  generalize (c.toList == c'.toList) = C
  generalize (m.toList == m'.toList) = M
  generalize (t.toList == t'.toList) = T
  generalize Lib.equalFuncD sameS D D' = E
  revert A C M T E
  decide

/-- THE LAW: whatever the texts, whatever the two maps. -/
theorem law3 {H : Type} (a x c m t a' x' c' m' t' : ByteArray) (p p' : Option Nat) (D D' : DataW H) (w : World) (h : Src w p D) (h' : Src w p' D') :
    Calls Try.prog 3 #[.string a, .string x, .string c, .string m, .string t, .map p, .string a', .string x', .string c', .string m', .string t', .map p'] w fun e w' => e = .returned (.bool true) ∧ w.grownBy w' none := by
  have ln := fun ty => AnyEq.len_src_Equal h Try.underlying22 ty
  have ln' := fun ty => AnyEq.len_src_Equal h' Try.underlying22 ty
  by_cases big : 65536 < a.size ∨ 65536 < x.size ∨ 65536 < c.size ∨ 65536 < m.size ∨ 65536 < t.size ∨ 65536 < a'.size ∨ 65536 < x'.size ∨ 65536 < c'.size ∨ 65536 < m'.size ∨ 65536 < t'.size ∨ 4096 < Maps.size D ∨ 4096 < Maps.size D'
  · exact law3_early a x c m t a' x' c' m' t' p p' _ _ w ln ln' big
  · have up : ∀ {v : Bool} {W : World} {e : Ending} {w' : World}, w.grownBy W none → (e = .returned (.bool v) ∧ W.grownBy w' none) → (e = .returned (.bool v) ∧ w.grownBy w' none) := fun hg hx => ⟨hx.1, grown_trans hg hx.2⟩
    refine law3_main a x c m t a' x' c' m' t' p p' _ _ w ln ln'
      (decide_eq_false (by omega)) (decide_eq_false (by omega)) (decide_eq_false (by omega)) (decide_eq_false (by omega)) (decide_eq_false (by omega)) (decide_eq_false (by omega)) (decide_eq_false (by omega)) (decide_eq_false (by omega)) (decide_eq_false (by omega)) (decide_eq_false (by omega)) (decide_eq_false (by omega)) (decide_eq_false (by omega))
      (same a c m t a' c' m' t' D D') (same a c m t a' c' m' t' D D) ?_ ?_ ?_ ?_ ?_ ?_ (same_ways a c m t a' c' m' t' D' h.texts _ _ rfl rfl)
    · exact fun W hg => (zz5 a x c m t a' x' c' m' t' p p' D D' W (h.kept hg) (h'.kept hg)).mono fun _ _ => up hg
    · intro W hg
      rw [← same_refl a c m t h.texts]
      exact (zz5 a x c m t a x c m t p p D D W (h.kept hg) (h.kept hg)).mono fun _ _ => up hg
    · intro W hg
      rw [← same_refl a' c' m' t' h'.texts]
      exact (zz5 a' x' c' m' t' a' x' c' m' t' p' p' D' D' W (h'.kept hg) (h'.kept hg)).mono fun _ _ => up hg
    · intro W hg
      rw [← same_symm a c m t a' c' m' t' h.texts h'.texts]
      exact (zz5 a' x' c' m' t' a x c m t p' p D' D W (h'.kept hg) (h.kept hg)).mono fun _ _ => up hg
    · exact fun W hg => (zz5 a x' c m t a' x c' m' t' p p' D D' W (h.kept hg) (h'.kept hg)).mono fun _ _ => up hg
    · exact fun W hg => (zz5 a x c m t a' x' c' m' t' p p D D W (h.kept hg) (h.kept hg)).mono fun _ _ => up hg

theorem own : ownKnob Try.prog.godebug = none := by kernel_rfl
theorem laidOut : laidOutB Try.prog = true := by kernel_rfl

theorem src_of {H : Type} {enc : TypeId × Value → H} {W : World} {a0 : Option Nat} {d0 : DataW H} {p : List MemPlace} (h0 : DataW.Trod enc Try.prog W 0 (fun _ => true) true 22 (.map a0) d0 p) : Src W a0 d0 := by
  obtain ⟨fuel, hf⟩ := h0
  rcases open_map Try.underlying22 hf with ⟨hcs, hx⟩ | ⟨bm, es, clock, m, rfl, hcs, hb, _, F, hx⟩
  · simp [Value.cells] at hcs
    subst hcs
    simp only [Prod.mk.injEq] at hx
    exact .inl ⟨rfl, hx.1⟩
  · simp [Value.cells] at hcs
    subst hcs
    simp only [Prod.mk.injEq] at hx
    obtain ⟨rfl, rfl⟩ := hx
    exact .inr ⟨bm, _, rfl, World.ownsMap_of_fit (R := plainElem Try.prog 9) hb F (fun x _ z hz => elemAt_plainElem_string Try.underlying9 hz)⟩

set_option maxRecDepth 100000 in
theorem lifted (os : Os) (started : os.Started) (H : Type) (enc : TypeId × Value → H) :
    ReturnsInHanded {} Try.checked os 3 .any (Rows.fnDescribesIsReflexiveSymmetricAndBlindToExpirySpec.pre6 enc Try.prog Try.f3 Rows.fnDescribesIsReflexiveSymmetricAndBlindToExpiryRow.domain false) (Rows.fnDescribesIsReflexiveSymmetricAndBlindToExpirySpec.post enc Try.prog Try.f3 false true false false) := by
  refine returnsInHanded_of_change (C := Try.checked) own started (by kernel_rfl) Try.func3
    (ChangeSpec.witness6 (enc := enc) (C := Try.checked) false ⟨#[], #[.string ByteArray.empty, .string ByteArray.empty, .string ByteArray.empty, .string ByteArray.empty, .string ByteArray.empty, .map none, .string ByteArray.empty, .string ByteArray.empty, .string ByteArray.empty, .string ByteArray.empty, .string ByteArray.empty, .map none], []⟩ 8 (by kernel_rfl) (by kernel_rfl) (by kernel_rfl) (by kernel_rfl)) ?_
  intro W base args ds gs before hval0 hW _ _
  have hval : ∀ (j : Nat) t v, Try.f3.params[j]? = some t → args[j]? = some v → Value.okWide Try.prog W .any base t v := hval0
  have hW' := hW
  obtain ⟨p, q, hA0, hV, rfl, _, _⟩ := hW
  have hA : DataW.TrodAll enc Try.prog W 0 (fun _ => true) true Try.f3.params.toList args.toList ds p := hA0
  rw [Try.params3] at hA hval
  obtain ⟨v0, vs0, d0, ds0, p0, q0, hargs, rfl, rfl, h0, r0⟩ := trodAll_cons hA
  obtain ⟨v1, vs1, d1, ds1, p1, q1, rfl, rfl, rfl, h1, r1⟩ := trodAll_cons r0
  obtain ⟨v2, vs2, d2, ds2, p2, q2, rfl, rfl, rfl, h2, r2⟩ := trodAll_cons r1
  obtain ⟨v3, vs3, d3, ds3, p3, q3, rfl, rfl, rfl, h3, r3⟩ := trodAll_cons r2
  obtain ⟨v4, vs4, d4, ds4, p4, q4, rfl, rfl, rfl, h4, r4⟩ := trodAll_cons r3
  obtain ⟨v5, vs5, d5, ds5, p5, q5, rfl, rfl, rfl, h5, r5⟩ := trodAll_cons r4
  obtain ⟨v6, vs6, d6, ds6, p6, q6, rfl, rfl, rfl, h6, r6⟩ := trodAll_cons r5
  obtain ⟨v7, vs7, d7, ds7, p7, q7, rfl, rfl, rfl, h7, r7⟩ := trodAll_cons r6
  obtain ⟨v8, vs8, d8, ds8, p8, q8, rfl, rfl, rfl, h8, r8⟩ := trodAll_cons r7
  obtain ⟨v9, vs9, d9, ds9, p9, q9, rfl, rfl, rfl, h9, r9⟩ := trodAll_cons r8
  obtain ⟨v10, vs10, d10, ds10, p10, q10, rfl, rfl, rfl, h10, r10⟩ := trodAll_cons r9
  obtain ⟨v11, vs11, d11, ds11, p11, q11, rfl, rfl, rfl, h11, r11⟩ := trodAll_cons r10
  obtain ⟨rfl, rfl, rfl⟩ := trodAll_nil r11
  obtain rfl : args = #[v0, v1, v2, v3, v4, v5, v6, v7, v8, v9, v10, v11] := by cases args; simp_all
  obtain ⟨rfl, rfl⟩ := trodVars_none hV
  obtain ⟨a0, rfl, rfl, rfl, w0⟩ := open_string Try.underlying9 (hval 0 9 v0 rfl rfl) h0
  obtain ⟨a1, rfl, rfl, rfl, w1⟩ := open_string Try.underlying9 (hval 1 9 v1 rfl rfl) h1
  obtain ⟨a2, rfl, rfl, rfl, w2⟩ := open_string Try.underlying9 (hval 2 9 v2 rfl rfl) h2
  obtain ⟨a3, rfl, rfl, rfl, w3⟩ := open_string Try.underlying9 (hval 3 9 v3 rfl rfl) h3
  obtain ⟨a4, rfl, rfl, rfl, w4⟩ := open_string Try.underlying9 (hval 4 9 v4 rfl rfl) h4
  obtain ⟨a5, rfl⟩ := okWide_map Try.underlying22 (hval 5 22 v5 rfl rfl)
  obtain ⟨a6, rfl, rfl, rfl, w6⟩ := open_string Try.underlying9 (hval 6 9 v6 rfl rfl) h6
  obtain ⟨a7, rfl, rfl, rfl, w7⟩ := open_string Try.underlying9 (hval 7 9 v7 rfl rfl) h7
  obtain ⟨a8, rfl, rfl, rfl, w8⟩ := open_string Try.underlying9 (hval 8 9 v8 rfl rfl) h8
  obtain ⟨a9, rfl, rfl, rfl, w9⟩ := open_string Try.underlying9 (hval 9 9 v9 rfl rfl) h9
  obtain ⟨a10, rfl, rfl, rfl, w10⟩ := open_string Try.underlying9 (hval 10 9 v10 rfl rfl) h10
  obtain ⟨a11, rfl⟩ := okWide_map Try.underlying22 (hval 11 22 v11 rfl rfl)
  clear hA0 hval0
  have lt5 : ∀ x ∈ p5, x.block < W.heap.size := by obtain ⟨m, hm⟩ := h5; exact DataW.trod_lt m _ _ _ hm
  have lt11 : ∀ x ∈ p11, x.block < W.heap.size := by obtain ⟨m, hm⟩ := h11; exact DataW.trod_lt m _ _ _ hm
  refine (law3 a0 a1 a2 a3 a4 a6 a7 a8 a9 a10 a5 a11 d5 d11 W (src_of h5) (src_of h11)).mono fun e W' ⟨he, hg⟩ => ?_
  subst he
  have bel : Below W.heap.size W W' := (Below.refl _ W).grown hg (Nat.le_refl _) (fun j hj => by cases hj)
  have g5 := Below.trod laidOut (by kernel_rfl) (of_decide_eq_true (by kernel_rfl)) h5 bel lt5
  have g11 := Below.trod laidOut (by kernel_rfl) (of_decide_eq_true (by kernel_rfl)) h11 bel lt11
  exact ⟨_, rfl, _, _, _, [], _, [], hW', trodAll_mk1 (shut_bool Try.underlying4 _),
    (trodAll_cons_mk (shut_string Try.underlying9 w0) (trodAll_cons_mk (shut_string Try.underlying9 w1) (trodAll_cons_mk (shut_string Try.underlying9 w2) (trodAll_cons_mk (shut_string Try.underlying9 w3) (trodAll_cons_mk (shut_string Try.underlying9 w4) (trodAll_cons_mk g5
      (trodAll_cons_mk (shut_string Try.underlying9 w6) (trodAll_cons_mk (shut_string Try.underlying9 w7) (trodAll_cons_mk (shut_string Try.underlying9 w8) (trodAll_cons_mk (shut_string Try.underlying9 w9) (trodAll_cons_mk (shut_string Try.underlying9 w10) (trodAll_cons_mk g11 trodAll_mk0)))))))))))),
    rfl, bel.frame _, fun h => by cases h⟩

theorem proved : Rows.FnDescribesIsReflexiveSymmetricAndBlindToExpirySaid :=
  OpenClaim.holds_of_wide 3 Try.f3 rfl rfl rfl rfl rfl rfl rfl ⟨rfl, rfl, rfl, rfl, rfl⟩ rfl rfl rfl rfl rfl (by kernel_rfl) Try.func3 (by kernel_rfl)
    (of_decide_eq_true (by kernel_rfl)) (by unfold Func.isWrapper; first | (rw [if_pos (by decide +kernel)]; kernel_rfl) | (rw [if_neg (by decide +kernel)]; exact ⟨rfl, rfl⟩))
    (fun os started H enc _ => lifted os started H enc)
#print axioms proved
end Go.Proofs.Qxb6615214a.fnDescribesIsReflexive
