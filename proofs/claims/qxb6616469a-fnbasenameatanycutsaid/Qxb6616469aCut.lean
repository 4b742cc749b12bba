/-
  THE PROOF OF THE STATEMENT: the walk of the law (step 1), then the row's step as the seat's shell lays it.
-/
import Derived.Test.Qxb6616469aWalks
import Derived.WalkKit
import Derived.ProofKit
import Derived.OpenShut
import Derived.ShutString
namespace Go.Proofs.Qxb6616469a.fnBaseNameAtAnyCut
open Go.ChangeShapes Go.WideShapes Go.ChangeAt Go.RowKit
open Go.ChangeMaps (open_string shut_string)
set_option linter.unusedVariables false      -- a walk need not use every 'w<i>' (that an integer argument fits its kind)

theorem own : ownKnob Try.prog.godebug = none := by kernel_rfl

/-! ### STEP 1: THE WALK: the Go text returns true. 'Grown w w'': the world has at most new blocks (Derived/RowKit3.lean). Part the cases AHEAD of 'go_enter' where a test parts the walk; take each callee by a contract of your own. -/
set_option maxHeartbeats 800000 in
theorem walk (a0 : ByteArray) (a1 : Int) (w0 : a0.size ≤ maxLen) (w1 : (Lit.int .i64 a1).wf = true) (w : World) :
    Calls Try.prog 4 #[.string a0, .int .i64 a1] w fun e w' => e = .returned (.bool true) ∧ Grown w w' := by
  by_cases hb : a0.size ≤ 1048576
  · have hb8 := bytes8 a0 a1 w w0
    rw [decide_eq_true hb] at hb8
    by_cases hk : 0 ≤ a1 ∧ a1 ≤ a0.size
    · obtain ⟨k, rfl⟩ := Int.eq_ofNat_of_zero_le hk.1
      have hk2 : k ≤ a0.size := by omega
      have hbs := bn_size_le a0
      have h6 : ∀ W, Calls Try.prog 6 #[.string a0] W fun e w' => e = .returned (.string (bn a0)) ∧ w' = W := fun W => base6 a0 W (by omega)
      have h9 : ∀ W, Calls Try.prog 9 #[.string (bn a0)] W fun e w' => e = .returned (.bool false) ∧ w' = W := fun W => by
        have := slash9 (bn a0) W (by omega)
        rw [show slashB (bn a0) = false from decide_eq_false (bn_free a0)] at this; exact this
      have hr : (a0.extract k a0.size).size = a0.size - k := by
        rw [Lib.size_eq, Lib.extract_to_end, List.length_drop, ← Lib.size_eq]
      have hl : (a0.extract 0 k).size = k := by
        rw [Lib.size_eq, Lib.extract_data, List.drop_zero, List.length_take, ← Lib.size_eq]; omega
      have h9r : ∀ W, Calls Try.prog 9 #[.string (a0.extract k a0.size)] W fun e w' => e = .returned (.bool (slashB (a0.extract k a0.size))) ∧ w' = W := fun W => slash9 _ W (by omega)
      have h6r : ∀ W, Calls Try.prog 6 #[.string (a0.extract k a0.size)] W fun e w' => e = .returned (.string (bn (a0.extract k a0.size))) ∧ w' = W := fun W => base6 _ W (by omega)
      have h6l : ∀ W, Calls Try.prog 6 #[.string (a0.extract 0 k)] W fun e w' => e = .returned (.string (bn (a0.extract 0 k))) ∧ w' = W := fun W => base6 _ W (by omega)
      have HT : Hid _ := bn_tail a0
      have hq : ((bn a0).toList == (bn a0).toList) = true := by simp
      have hn : ((a0.extract (a0.size - (bn a0).size) a0.size).toList == (bn a0).toList) = true := by rw [HT.out]; simp
      have hd : decide (a0.size < (bn a0).size) = false := decide_eq_false (by omega)
      clear hr hl HT
      by_cases hs : slashB (a0.extract k a0.size) = true
      · rw [hs] at h9r
        rw [← bn_cut_hit a0 k (of_decide_eq_true hs)] at h6r
        clear h6l
        generalize bn a0 = b at *
        go_enter Try.func4, Try.ntmps4
        go_wp2_with (first | (go_at_call 8; refine hb8.mono ?_; rintro e w' ⟨rfl, rfl⟩))
        refine (h6 _).mono ?_
        rintro e w1 ⟨rfl, rfl⟩
        go_wp2_with fail
        refine (h9 _).mono ?_
        rintro e w1 ⟨rfl, rfl⟩
        go_wp2_with fail
        refine (h9r _).mono ?_
        rintro e w1 ⟨rfl, rfl⟩
        go_wp2_with fail
        refine (h6r _).mono ?_
        rintro e w1 ⟨rfl, rfl⟩
        go_wp2_with fail
        go_ret
        exact ⟨rfl, Grown.refl _⟩
      · have hs' : slashB (a0.extract k a0.size) = false := by simpa using hs
        rw [hs'] at h9r
        have HM : Hid _ := bn_cut_miss a0 k (of_decide_eq_false hs')
        clear h6r
        have hq2 : ((bn a0).toList == (bn (a0.extract 0 k) ++ a0.extract k a0.size).toList) = true := by rw [← HM.out]; simp
        have hll : (bn (a0.extract 0 k)).size ≤ a0.size := by
          have := bn_size_le (a0.extract 0 k)
          have hl : (a0.extract 0 k).size = k := by
            rw [Lib.size_eq, Lib.extract_data, List.drop_zero, List.length_take, ← Lib.size_eq]; omega
          omega
        generalize bn (a0.extract 0 k) = c at *
        generalize bn a0 = b at *
        clear HM
        go_enter Try.func4, Try.ntmps4
        go_wp2_with (first | (go_at_call 8; refine hb8.mono ?_; rintro e w' ⟨rfl, rfl⟩))
        refine (h6 _).mono ?_
        rintro e w1 ⟨rfl, rfl⟩
        go_wp2_with fail
        refine (h9 _).mono ?_
        rintro e w1 ⟨rfl, rfl⟩
        go_wp2_with fail
        refine (h9r _).mono ?_
        rintro e w1 ⟨rfl, rfl⟩
        go_wp2_with fail
        refine (h6l _).mono ?_
        rintro e w1 ⟨rfl, rfl⟩
        go_wp2_with fail
        go_ret
        exact ⟨rfl, Grown.refl _⟩
    · rcases (show a1 < 0 ∨ (0 ≤ a1 ∧ (a0.size : Int) < a1) by omega) with h1 | ⟨h1, h2⟩
      all_goals
        go_enter Try.func4, Try.ntmps4
        go_wp2_with (first | (go_at_call 8; refine hb8.mono ?_; rintro e w' ⟨rfl, rfl⟩))
        go_ret
        exact ⟨rfl, Grown.refl _⟩
  · have hb8 := bytes8 a0 a1 w w0
    rw [decide_eq_false hb] at hb8
    go_enter Try.func4, Try.ntmps4
    go_wp2_with (first | (go_at_call 8; refine hb8.mono ?_; rintro e w' ⟨rfl, rfl⟩))
    go_ret
    exact ⟨rfl, Grown.refl _⟩

/-! ### THE ROW's STEP: WRITTEN OUT: LEAVE IT -/
set_option maxRecDepth 100000 in
theorem lifted (os : Os) (started : os.Started) (H : Type) (enc : TypeId × Value → H) :
    ReturnsInHanded {} Try.checked os 4 .any (Rows.fnBaseNameAtAnyCutSpec.pre6 enc Try.prog Try.f4 Rows.fnBaseNameAtAnyCutRow.domain false) (Rows.fnBaseNameAtAnyCutSpec.post enc Try.prog Try.f4 false true false false) := by
  refine returnsInHanded_of_change (C := Try.checked) own started (by kernel_rfl) Try.func4
    (ChangeSpec.witness6 (enc := enc) (C := Try.checked) false ⟨#[], #[.string ByteArray.empty, .int .i64 0], []⟩ 8 (by kernel_rfl) (by kernel_rfl) (by kernel_rfl) (by kernel_rfl)) ?_
  intro W base args ds gs before hval0 hW hcnd _
  have hval : ∀ (j : Nat) t v, Try.f4.params[j]? = some t → args[j]? = some v → Value.okWide Try.prog W .any base t v := hval0
  have hW' := hW
  obtain ⟨p, q, hA0, hV, rfl, hfz, hnd⟩ := hW
  have hA : DataW.TrodAll enc Try.prog W 0 (fun _ => true) true Try.f4.params.toList args.toList ds p := hA0
  rw [Try.params4] at hA hval
  obtain ⟨v0, vs0, d0, ds0, p0, q0, hargs, rfl, rfl, h0, r0⟩ := trodAll_cons hA
  obtain ⟨v1, vs1, d1, ds1, p1, q1, rfl, rfl, rfl, h1, r1⟩ := trodAll_cons r0
  obtain ⟨rfl, rfl, rfl⟩ := trodAll_nil r1
  obtain rfl : args = #[v0, v1] := by cases args; simp_all
  obtain ⟨rfl, rfl⟩ := trodVars_none hV
  obtain ⟨a0, rfl, rfl, rfl, w0⟩ := open_string Try.underlying9 (hval 0 9 v0 rfl rfl) h0
  obtain ⟨a1, rfl, rfl, rfl, w1⟩ := open_int Try.underlying3 (hval 1 3 v1 rfl rfl) h1
  clear hA0 hval0
  simp only [List.append_nil] at hW'
  refine (walk a0 a1 w0 w1 W).mono fun e W' ⟨he, hg⟩ => ?_
  subst he
  exact ⟨_, rfl, post_of_same (pa := []) (pv := []) hW' (fun _ _ _ => (trodAll_cons_mk (shut_bool Try.underlying4 _) trodAll_mk0)) (fun sp _ => (trodAll_cons_mk (shut_string Try.underlying9 w0) (trodAll_cons_mk (shut_int Try.underlying3 w1) trodAll_mk0))) (fun _ _ => rfl) rfl
    (hg.frame _) hg.2.1 (ok_one (by kernel_rfl) rfl (okWide_bool_mk Try.underlying4 _))⟩

theorem over : Rows.fnBaseNameAtAnyCutRow.holds Try.pinned (OpenSpec.ofChange Rows.fnBaseNameAtAnyCutSpec) :=
  OpenClaim.holds_of_wide 4 Try.f4 rfl rfl rfl rfl rfl rfl rfl ⟨rfl, rfl, rfl, rfl, rfl⟩ rfl rfl rfl rfl rfl (by kernel_rfl) Try.func4 (by kernel_rfl)
    (of_decide_eq_true (by kernel_rfl)) (by unfold Func.isWrapper; first | (rw [if_pos (by decide +kernel)]; kernel_rfl) | (rw [if_neg (by decide +kernel)]; exact ⟨rfl, rfl⟩))
    (fun os started H enc _ => lifted os started H enc)

/-- ████ THE STATEMENT ████ -/
theorem proved : Rows.FnBaseNameAtAnyCutSaid :=
  over
#print axioms proved
end Go.Proofs.Qxb6616469a.fnBaseNameAtAnyCut
