/-
  THE PROOF OF THE STATEMENT: the walk of the law (step 1), then the row's step as the seat's shell lays it.
-/
import Derived.Test.Qxb6616469aWalks
import Derived.WalkKit
import Derived.ProofKit
import Derived.OpenShut
import Derived.ShutString
namespace Go.Proofs.Qxb6616469a.fnBaseNameUnderAnyDirectory
open Go.ChangeShapes Go.WideShapes Go.ChangeAt Go.RowKit
open Go.ChangeMaps (open_string shut_string)
set_option linter.unusedVariables false      -- a walk need not use every 'w<i>' (that an integer argument fits its kind)

theorem tail_byte (p : ByteArray) (i : Nat) (h : i < (bn p).size) : (((bn p)[i].toNat : Int) == 47) = false ∧ p[p.size - (bn p).size + i]'(by have := bn_size_le p; omega) = (bn p)[i] := by
  obtain ⟨h1, h2, h3⟩ := bn_byte p i h
  have hle := bn_size_le p
  rw [byte_list (bn p) i h] at h1 h3
  rw [byte_list p _ (by omega)] at h3
  exact ⟨by rw [beq_eq_false_iff_ne]; exact fun e => h1 (byte_ne.1 e), h3⟩

theorem tail_edge (p : ByteArray) : (bn p).size = p.size ∨ ∃ h : (bn p).size < p.size, ((p[p.size - (bn p).size - 1]'(by omega)).toNat : Int) = 47 := by
  rcases bn_edge p with h | ⟨h1, h2, h3⟩
  · exact .inl h
  · refine .inr ⟨h3, ?_⟩
    rw [byte_list p _ (by omega)] at h2
    exact byte_ne.2 h2

theorem grown_drewN (w : World) (n : Nat) : Grown w (w.drewN n) := Grown.refl w

theorem own : ownKnob Try.prog.godebug = none := by kernel_rfl

/-! ### STEP 1: THE WALK: the Go text returns true. 'Grown w w'': the world has at most new blocks (Derived/RowKit3.lean). Part the cases AHEAD of 'go_enter' where a test parts the walk; take each callee by a contract of your own. -/
theorem walk (a0 : ByteArray) (a1 : ByteArray) (w0 : a0.size ≤ maxLen) (w1 : a1.size ≤ maxLen) (w : World) :
    Calls Try.prog 3 #[.string a0, .string a1] w fun e w' => e = .returned (.bool true) ∧ Grown w w' := by
  by_cases hb : a0.size + a1.size ≤ 1048576
  · by_cases h0 : a0.size ≤ 524288
    · by_cases h1 : a1.size ≤ 524288
      · have hbs := bn_size_le a1
        have htail : ∀ W, Calls Try.prog 7 #[.string a1, .string (bn a1)] W fun e w' => e = .returned (.bool true) ∧ ∃ n, w' = W.drewN n :=
          fun W => tail7 a1 (bn a1) W (by omega) hbs (fun i h => tail_byte a1 i h) (tail_edge a1)
        have hsz : (a0 ++ ⟨#[47]⟩ ++ a1).size = a0.size + 1 + a1.size := by
          rw [Lib.size_eq, append_data, append_data, List.length_append, List.length_append, ← Lib.size_eq, ← Lib.size_eq]; rfl
        have h6 : ∀ W, Calls Try.prog 6 #[.string a1] W fun e w' => e = .returned (.string (bn a1)) ∧ w' = W := fun W => base6 a1 W (by omega)
        have h6u : ∀ W, Calls Try.prog 6 #[.string (a0 ++ ⟨#[47]⟩ ++ a1)] W fun e w' => e = .returned (.string (bn a1)) ∧ w' = W := fun W => by
          have := base6 (a0 ++ ⟨#[47]⟩ ++ a1) W (by omega)
          rw [bn_under a0 a1 ⟨#[47]⟩ rfl] at this; exact this
        have h6b : ∀ W, Calls Try.prog 6 #[.string (bn a1)] W fun e w' => e = .returned (.string (bn a1)) ∧ w' = W := fun W => by
          have := base6 (bn a1) W (by omega)
          rw [bn_again] at this; exact this
        have hb5 := bytes5 a0 a1 w w0 w1
        rw [decide_eq_true hb] at hb5
        clear hsz
        generalize bn a1 = b at *
        have hq : (b.toList == b.toList) = true := by simp
        have hn : (b.toList != b.toList) = false := by simp
        go_enter Try.func3, Try.ntmps3
        go_wp2_with (first | (go_at_call 5; refine hb5.mono ?_; rintro e w' ⟨rfl, rfl⟩))
        refine (h6 _).mono ?_
        rintro e w1 ⟨rfl, rfl⟩
        go_wp2_with fail
        refine (htail _).mono ?_
        rintro e w2 ⟨rfl, n, rfl⟩
        go_wp2_with fail
        refine (h6u _).mono ?_
        rintro e w2 ⟨rfl, rfl⟩
        go_wp2_with fail
        refine (h6b _).mono ?_
        rintro e w2 ⟨rfl, rfl⟩
        go_wp2_with fail
        go_ret
        exact ⟨rfl, grown_drewN _ n⟩
      · have hb5 := bytes5 a0 a1 w w0 w1
        rw [decide_eq_true hb] at hb5
        go_enter Try.func3, Try.ntmps3
        go_wp2_with (first | (go_at_call 5; refine hb5.mono ?_; rintro e w' ⟨rfl, rfl⟩))
        go_ret
        exact ⟨rfl, Grown.refl _⟩
    · have hb5 := bytes5 a0 a1 w w0 w1
      rw [decide_eq_true hb] at hb5
      go_enter Try.func3, Try.ntmps3
      go_wp2_with (first | (go_at_call 5; refine hb5.mono ?_; rintro e w' ⟨rfl, rfl⟩))
      go_ret
      exact ⟨rfl, Grown.refl _⟩
  · have hb5 := bytes5 a0 a1 w w0 w1
    rw [decide_eq_false hb] at hb5
    go_enter Try.func3, Try.ntmps3
    go_wp2_with (first | (go_at_call 5; refine hb5.mono ?_; rintro e w' ⟨rfl, rfl⟩))
    go_ret
    exact ⟨rfl, Grown.refl _⟩

/-! ### THE ROW's STEP: WRITTEN OUT: LEAVE IT -/
set_option maxRecDepth 100000 in
theorem lifted (os : Os) (started : os.Started) (H : Type) (enc : TypeId × Value → H) :
    ReturnsInHanded {} Try.checked os 3 .any (Rows.fnBaseNameUnderAnyDirectorySpec.pre6 enc Try.prog Try.f3 Rows.fnBaseNameUnderAnyDirectoryRow.domain false) (Rows.fnBaseNameUnderAnyDirectorySpec.post enc Try.prog Try.f3 false true false false) := by
  refine returnsInHanded_of_change (C := Try.checked) own started (by kernel_rfl) Try.func3
    (ChangeSpec.witness6 (enc := enc) (C := Try.checked) false ⟨#[], #[.string ByteArray.empty, .string ByteArray.empty], []⟩ 8 (by kernel_rfl) (by kernel_rfl) (by kernel_rfl) (by kernel_rfl)) ?_
  intro W base args ds gs before hval0 hW hcnd _
  have hval : ∀ (j : Nat) t v, Try.f3.params[j]? = some t → args[j]? = some v → Value.okWide Try.prog W .any base t v := hval0
  have hW' := hW
  obtain ⟨p, q, hA0, hV, rfl, hfz, hnd⟩ := hW
  have hA : DataW.TrodAll enc Try.prog W 0 (fun _ => true) true Try.f3.params.toList args.toList ds p := hA0
  rw [Try.params3] at hA hval
  obtain ⟨v0, vs0, d0, ds0, p0, q0, hargs, rfl, rfl, h0, r0⟩ := trodAll_cons hA
  obtain ⟨v1, vs1, d1, ds1, p1, q1, rfl, rfl, rfl, h1, r1⟩ := trodAll_cons r0
  obtain ⟨rfl, rfl, rfl⟩ := trodAll_nil r1
  obtain rfl : args = #[v0, v1] := by cases args; simp_all
  obtain ⟨rfl, rfl⟩ := trodVars_none hV
  obtain ⟨a0, rfl, rfl, rfl, w0⟩ := open_string Try.underlying9 (hval 0 9 v0 rfl rfl) h0
  obtain ⟨a1, rfl, rfl, rfl, w1⟩ := open_string Try.underlying9 (hval 1 9 v1 rfl rfl) h1
  clear hA0 hval0
  simp only [List.append_nil] at hW'
  refine (walk a0 a1 w0 w1 W).mono fun e W' ⟨he, hg⟩ => ?_
  subst he
  exact ⟨_, rfl, post_of_same (pa := []) (pv := []) hW' (fun _ _ _ => (trodAll_cons_mk (shut_bool Try.underlying4 _) trodAll_mk0)) (fun sp _ => (trodAll_cons_mk (shut_string Try.underlying9 w0) (trodAll_cons_mk (shut_string Try.underlying9 w1) trodAll_mk0))) (fun _ _ => rfl) rfl
    (hg.frame _) hg.2.1 (ok_one (by kernel_rfl) rfl (okWide_bool_mk Try.underlying4 _))⟩

theorem over : Rows.fnBaseNameUnderAnyDirectoryRow.holds Try.pinned (OpenSpec.ofChange Rows.fnBaseNameUnderAnyDirectorySpec) :=
  OpenClaim.holds_of_wide 3 Try.f3 rfl rfl rfl rfl rfl rfl rfl ⟨rfl, rfl, rfl, rfl, rfl⟩ rfl rfl rfl rfl rfl (by kernel_rfl) Try.func3 (by kernel_rfl)
    (of_decide_eq_true (by kernel_rfl)) (by unfold Func.isWrapper; first | (rw [if_pos (by decide +kernel)]; kernel_rfl) | (rw [if_neg (by decide +kernel)]; exact ⟨rfl, rfl⟩))
    (fun os started H enc _ => lifted os started H enc)

/-- ████ THE STATEMENT ████ -/
theorem proved : Rows.FnBaseNameUnderAnyDirectorySaid :=
  over
#print axioms proved
end Go.Proofs.Qxb6616469a.fnBaseNameUnderAnyDirectory
