/-
  THE SECOND STATEMENT: 'describes tells each member apart': the law out of ZZDescribes' contract, then the row.
-/
import Derived.Test.Qxb6615214aLawB
import Derived.Maps.OwnSet
import Derived.ChangeMaps5
import Derived.ProofKit
import Derived.OpenShut
import Derived.ShutString
import Derived.ChangeOld
import Derived.Below
namespace Go.Proofs.Qxb6615214a.fnDescribesTells
open Go.ChangeShapes Go.WideShapes Go.ChangeAt Go.RowKit Go.WideElems Go.Maps
open Go.ChangeMaps (open_string shut_string)

theorem same_resource {H : Type} (v a c m t : ByteArray) {D : DataW H} (h : Texts D) : same v c m t a c m t D D = (v.toList == a.toList) := by
  unfold same; rw [equal_refl h]; simp
theorem same_type {H : Type} (v a c m t : ByteArray) {D : DataW H} (h : Texts D) : same a v m t a c m t D D = (v.toList == c.toList) := by
  unfold same; rw [equal_refl h]; simp
theorem same_md5 {H : Type} (v a c m t : ByteArray) {D : DataW H} (h : Texts D) : same a c v t a c m t D D = (v.toList == m.toList) := by
  unfold same; rw [equal_refl h]; simp
theorem same_method {H : Type} (v a c m t : ByteArray) {D : DataW H} (h : Texts D) : same a c m v a c m t D D = (v.toList == t.toList) := by
  unfold same; rw [equal_refl h]; simp
theorem same_maps {H : Type} (a c m t : ByteArray) (D D' : DataW H) : same a c m t a c m t D D' = Lib.equalFuncD sameS D D' := by
  unfold same; simp

/-- THE LAW: whatever the texts, whatever the map. -/
theorem law4 {H : Type} (a x c m t v k u u' : ByteArray) (p : Option Nat) (D : DataW H) (w : World) (h : Src w p D) (hk : k.size ≤ maxLen) (hu : u.size ≤ maxLen) (hu' : u'.size ≤ maxLen) :
    Calls Try.prog 4 #[.string a, .string x, .string c, .string m, .string t, .map p, .string v, .string k, .string u, .string u'] w fun e w' => e = .returned (.bool true) ∧ w.grownBy w' none := by
  have ln := fun ty => AnyEq.len_src_Equal h Try.underlying22 ty
  by_cases big : 65536 < a.size ∨ 65536 < x.size ∨ 65536 < c.size ∨ 65536 < m.size ∨ 65536 < t.size ∨ 65536 < v.size ∨ 65536 < k.size ∨ 65536 < u.size ∨ 65536 < u'.size ∨ 4096 < Maps.size D
  · exact law4_early a x c m t v k u u' p _ w ln big
  · have up : ∀ {v : Bool} {W : World} {e : Ending} {w' : World}, w.grownBy W none → (e = .returned (.bool v) ∧ W.grownBy w' none) → (e = .returned (.bool v) ∧ w.grownBy w' none) := fun hg hx => ⟨hx.1, grown_trans hg hx.2⟩
    refine law4_main a x c m t v k u u' p _ w ln
      (decide_eq_false (by omega)) (decide_eq_false (by omega)) (decide_eq_false (by omega)) (decide_eq_false (by omega)) (decide_eq_false (by omega)) (decide_eq_false (by omega)) (decide_eq_false (by omega)) (decide_eq_false (by omega)) (decide_eq_false (by omega)) (decide_eq_false (by omega))
      hk hu hu' ?_ ?_ ?_ ?_ ?_ ?_ ?_ ?_
    · intro W hg
      rw [← same_resource v a c m t h.texts]
      exact (zz5 v x c m t a x c m t p p D D W (h.kept hg) (h.kept hg)).mono fun _ _ => up hg
    · intro W hg
      rw [← same_type v a c m t h.texts]
      exact (zz5 a x v m t a x c m t p p D D W (h.kept hg) (h.kept hg)).mono fun _ _ => up hg
    · intro W hg
      rw [← same_md5 v a c m t h.texts]
      exact (zz5 a x c v t a x c m t p p D D W (h.kept hg) (h.kept hg)).mono fun _ _ => up hg
    · intro W hg
      rw [← same_method v a c m t h.texts]
      exact (zz5 a x c m v a x c m t p p D D W (h.kept hg) (h.kept hg)).mono fun _ _ => up hg
    · intro W hg
      rw [← equal_refl h.texts, ← same_maps a c m t]
      exact (zz5 a v c m t a x c m t p p D D W (h.kept hg) (h.kept hg)).mono fun _ _ => up hg
    · intro W b b' E E' g g'
      rw [← same_maps a c m t]
      exact zz5 a x c m t a x c m t (some b) (some b') E E' W g g'
    · intro W b E g
      rw [← same_maps a c m t]
      exact zz5 a x c m t a x c m t none (some b) .nil E W (.inl ⟨rfl, rfl⟩) g
    · intro W b E g
      rw [← same_maps a c m t]
      exact zz5 a x c m t a x c m t (some b) none E .nil W g (.inl ⟨rfl, rfl⟩)

theorem own : ownKnob Try.prog.godebug = none := by kernel_rfl
theorem laidOut : laidOutB Try.prog = true := by kernel_rfl

theorem src_of {H : Type} {enc : TypeId × Value → H} {W : World} {a0 : Option Nat} {d0 : DataW H} {p : List MemPlace} (h0 : DataW.Trod enc Try.prog W 0 (fun _ => true) true 22 (.map a0) d0 p) : Src W a0 d0 := by
  obtain ⟨fuel, hf⟩ := h0
  rcases open_map Try.underlying22 hf with ⟨hcs, hx⟩ | ⟨bm, es, clock, m, rfl, hcs, hb, _, F, hx⟩
  · simp [Value.cells] at hcs
    subst hcs
    simp only [Prod.mk.injEq] at hx
    exact .inl ⟨rfl, hx.1⟩
  · simp [Value.cells] at hcs
    subst hcs
    simp only [Prod.mk.injEq] at hx
    obtain ⟨rfl, rfl⟩ := hx
    exact .inr ⟨bm, _, rfl, World.ownsMap_of_fit (R := plainElem Try.prog 9) hb F (fun x _ z hz => elemAt_plainElem_string Try.underlying9 hz)⟩

set_option maxRecDepth 100000 in
theorem lifted (os : Os) (started : os.Started) (H : Type) (enc : TypeId × Value → H) :
    ReturnsInHanded {} Try.checked os 4 .any (Rows.fnDescribesTellsEachMemberApartSpec.pre6 enc Try.prog Try.f4 Rows.fnDescribesTellsEachMemberApartRow.domain false) (Rows.fnDescribesTellsEachMemberApartSpec.post enc Try.prog Try.f4 false true false false) := by
  refine returnsInHanded_of_change (C := Try.checked) own started (by kernel_rfl) Try.func4
    (ChangeSpec.witness6 (enc := enc) (C := Try.checked) false ⟨#[], #[.string ByteArray.empty, .string ByteArray.empty, .string ByteArray.empty, .string ByteArray.empty, .string ByteArray.empty, .map none, .string ByteArray.empty, .string ByteArray.empty, .string ByteArray.empty, .string ByteArray.empty], []⟩ 8 (by kernel_rfl) (by kernel_rfl) (by kernel_rfl) (by kernel_rfl)) ?_
  intro W base args ds gs before hval0 hW _ _
  have hval : ∀ (j : Nat) t v, Try.f4.params[j]? = some t → args[j]? = some v → Value.okWide Try.prog W .any base t v := hval0
  have hW' := hW
  obtain ⟨p, q, hA0, hV, rfl, _, _⟩ := hW
  have hA : DataW.TrodAll enc Try.prog W 0 (fun _ => true) true Try.f4.params.toList args.toList ds p := hA0
  rw [Try.params4] at hA hval
  obtain ⟨v0, vs0, d0, ds0, p0, q0, hargs, rfl, rfl, h0, r0⟩ := trodAll_cons hA
  obtain ⟨v1, vs1, d1, ds1, p1, q1, rfl, rfl, rfl, h1, r1⟩ := trodAll_cons r0
  obtain ⟨v2, vs2, d2, ds2, p2, q2, rfl, rfl, rfl, h2, r2⟩ := trodAll_cons r1
  obtain ⟨v3, vs3, d3, ds3, p3, q3, rfl, rfl, rfl, h3, r3⟩ := trodAll_cons r2
  obtain ⟨v4, vs4, d4, ds4, p4, q4, rfl, rfl, rfl, h4, r4⟩ := trodAll_cons r3
  obtain ⟨v5, vs5, d5, ds5, p5, q5, rfl, rfl, rfl, h5, r5⟩ := trodAll_cons r4
  obtain ⟨v6, vs6, d6, ds6, p6, q6, rfl, rfl, rfl, h6, r6⟩ := trodAll_cons r5
  obtain ⟨v7, vs7, d7, ds7, p7, q7, rfl, rfl, rfl, h7, r7⟩ := trodAll_cons r6
  obtain ⟨v8, vs8, d8, ds8, p8, q8, rfl, rfl, rfl, h8, r8⟩ := trodAll_cons r7
  obtain ⟨v9, vs9, d9, ds9, p9, q9, rfl, rfl, rfl, h9, r9⟩ := trodAll_cons r8
  obtain ⟨rfl, rfl, rfl⟩ := trodAll_nil r9
  obtain rfl : args = #[v0, v1, v2, v3, v4, v5, v6, v7, v8, v9] := by cases args; simp_all
  obtain ⟨rfl, rfl⟩ := trodVars_none hV
  obtain ⟨a0, rfl, rfl, rfl, w0⟩ := open_string Try.underlying9 (hval 0 9 v0 rfl rfl) h0
  obtain ⟨a1, rfl, rfl, rfl, w1⟩ := open_string Try.underlying9 (hval 1 9 v1 rfl rfl) h1
  obtain ⟨a2, rfl, rfl, rfl, w2⟩ := open_string Try.underlying9 (hval 2 9 v2 rfl rfl) h2
  obtain ⟨a3, rfl, rfl, rfl, w3⟩ := open_string Try.underlying9 (hval 3 9 v3 rfl rfl) h3
  obtain ⟨a4, rfl, rfl, rfl, w4⟩ := open_string Try.underlying9 (hval 4 9 v4 rfl rfl) h4
  obtain ⟨a5, rfl⟩ := okWide_map Try.underlying22 (hval 5 22 v5 rfl rfl)
  obtain ⟨a6, rfl, rfl, rfl, w6⟩ := open_string Try.underlying9 (hval 6 9 v6 rfl rfl) h6
  obtain ⟨a7, rfl, rfl, rfl, w7⟩ := open_string Try.underlying9 (hval 7 9 v7 rfl rfl) h7
  obtain ⟨a8, rfl, rfl, rfl, w8⟩ := open_string Try.underlying9 (hval 8 9 v8 rfl rfl) h8
  obtain ⟨a9, rfl, rfl, rfl, w9⟩ := open_string Try.underlying9 (hval 9 9 v9 rfl rfl) h9
  clear hA0 hval0
  have lt5 : ∀ x ∈ p5, x.block < W.heap.size := by obtain ⟨m, hm⟩ := h5; exact DataW.trod_lt m _ _ _ hm
  refine (law4 a0 a1 a2 a3 a4 a6 a7 a8 a9 a5 d5 W (src_of h5) w7 w8 w9).mono fun e W' ⟨he, hg⟩ => ?_
  subst he
  have bel : Below W.heap.size W W' := (Below.refl _ W).grown hg (Nat.le_refl _) (fun j hj => by cases hj)
  have g5 := Below.trod laidOut (by kernel_rfl) (of_decide_eq_true (by kernel_rfl)) h5 bel lt5
  exact ⟨_, rfl, _, _, _, [], _, [], hW', trodAll_mk1 (shut_bool Try.underlying4 _),
    (trodAll_cons_mk (shut_string Try.underlying9 w0) (trodAll_cons_mk (shut_string Try.underlying9 w1) (trodAll_cons_mk (shut_string Try.underlying9 w2) (trodAll_cons_mk (shut_string Try.underlying9 w3) (trodAll_cons_mk (shut_string Try.underlying9 w4) (trodAll_cons_mk g5 (trodAll_cons_mk (shut_string Try.underlying9 w6) (trodAll_cons_mk (shut_string Try.underlying9 w7) (trodAll_cons_mk (shut_string Try.underlying9 w8) (trodAll_cons_mk (shut_string Try.underlying9 w9) trodAll_mk0)))))))))),
    rfl, bel.frame _, fun h => by cases h⟩

theorem proved : Rows.FnDescribesTellsEachMemberApartSaid :=
  OpenClaim.holds_of_wide 4 Try.f4 rfl rfl rfl rfl rfl rfl rfl ⟨rfl, rfl, rfl, rfl, rfl⟩ rfl rfl rfl rfl rfl (by kernel_rfl) Try.func4 (by kernel_rfl)
    (of_decide_eq_true (by kernel_rfl)) (by unfold Func.isWrapper; first | (rw [if_pos (by decide +kernel)]; kernel_rfl) | (rw [if_neg (by decide +kernel)]; exact ⟨rfl, rfl⟩))
    (fun os started H enc _ => lifted os started H enc)
#print axioms proved
end Go.Proofs.Qxb6615214a.fnDescribesTells
