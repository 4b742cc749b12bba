/-
  THE PROOF OF THE STATEMENT: the walk of the law (step 1), then the row's step as the seat's shell lays it.
-/
import Derived.Test.Qxb6616497aWalks
import Derived.WalkKit
import Derived.ProofKit
import Derived.OpenShut
import Derived.ShutString
import Derived.ChangeOld
import Derived.Below
namespace Go.Proofs.Qxb6616497a.fnCoveredIsAWindowOntoTheBufferAfterMaxHead
open Go.ChangeShapes Go.WideShapes Go.ChangeAt Go.RowKit
open Go.ChangeMaps (open_string shut_string)
set_option linter.unusedVariables false

theorem own : ownKnob Try.prog.godebug = none := by kernel_rfl
theorem laidOut : laidOutB Try.prog = true := by kernel_rfl

/-- WHAT THE WALK IS TOLD OF A SLICE OF INTEGERS THAT CAME IN: it is nil; or it leads to a row of 'cap' cells, the numbers 'zs' (the first 'len' are its elements, the rest its spare room), each fitting its kind. -/
def IsRow (k : IntKind) (w : World) (a : Option Addr) (len cap : Nat) (zs : List Int) : Prop :=
  (a = none ∧ len = 0 ∧ cap = 0 ∧ zs = []) ∨
  ∃ x, a = some x ∧ len ≤ cap ∧ cap ≤ maxLen ∧ zs.length = cap ∧ (∀ i, i < zs.length → w.cell? (x.add i) = some (.int k (zs.getD i 0))) ∧ ∀ n ∈ zs, (Lit.int k n).wf = true

theorem own_below {w w' : World} {base : Nat} {e : TypeId} {v : Value} {n : Nat} {xs : List Value} (h : w.ownsRow base e 1 v n xs) (hb : Below w.heap.size w w') : w'.ownsRow base e 1 v n xs := by
  refine ⟨h.1, ?_⟩
  rcases h.2 with hx | ⟨g, cap, cur, rfl, hbg, hg, r⟩
  · exact .inl hx
  · exact .inr ⟨g, cap, cur, rfl, hbg, (hb.block g (Array.getElem?_eq_some_iff.1 hg).1).trans hg, r⟩

theorem own_reads {w : World} {base g n : Nat} {xs : List Value} {z : Nat → Int} (h : w.ownsRow base 5 1 (.slice (some ⟨g, 0, none⟩) n n) n xs) (hx : ∀ i, i < n → xs[i]? = some (.int .u8 (z i))) (j : Nat) (hj : j < n) : w.cell? ⟨g, j, none⟩ = some (.int .u8 (z j)) := by
  rw [World.ownsRow.cellAt h j (by omega)]; exact hx j hj

set_option maxHeartbeats 2000000 in
/-- Inside the law's bounds. z: what the buffer held. -/
theorem walk_in (b off len cap : Nat) (z : Nat → Int) (i : Nat) (x : Int) (w : World) (hbl : b < w.heap.size) (hc : ∀ j, j < len → w.cell? ⟨b, off + j, none⟩ = some (.int .u8 (z j))) (hil : i + 18 < len) (hb : len ≤ 1048576)
    (h4 : Calls Try.prog 4 #[.slice (some ⟨b, off, none⟩) len cap, .int .i64 i, .int .u8 x] w fun e w' => e = .returned (.bool true) ∧ w' = w) :
    Calls Try.prog 3 #[.slice (some ⟨b, off, none⟩) len cap, .int .i64 i, .int .u8 x] w fun e w' => e = .returned (.bool true) ∧ Below w.heap.size w w' := by
  have h5 := clone5 b off len cap z w hbl hc hb
  clear hc
  go_enter Try.func3, Try.ntmps3
  go_wp2_with (first | (go_at_call 4; refine h4.mono ?_; rintro e w' ⟨rfl, rfl⟩))
  refine h5.mono ?_
  rintro e w1 ⟨rfl, xs1, ho1, hx1, B1⟩
  clear h4 h5
  go_wp2_with fail
  have hlt1 := (ho1.lt w'.heap.size rfl).2
  have h5 := clone5 w'.heap.size 0 len len z w1 hlt1 (fun j hj => by rw [Nat.zero_add]; exact own_reads ho1 hx1 j hj) hb
  refine h5.mono ?_
  rintro e w2 ⟨rfl, xs2, ho2, hx2, B2⟩
  clear h5
  have ho1' := own_below ho1 B2
  have C1 : Hid (∀ j, j < len → w2.cell? ⟨w'.heap.size, j, none⟩ = some (.int .u8 (z j))) := fun j hj => own_reads ho1' hx1 j hj
  have C2 : Hid (∀ j, j < len → w2.cell? ⟨w1.heap.size, j, none⟩ = some (.int .u8 (z j))) := fun j hj => own_reads ho2 hx2 j hj
  have hcx := C1.out (18 + i) (by omega)
  have hfx := World.ownsRow.frozenAt ho1' (18 + i)
  have B3 : Below w'.heap.size w' w2 := B1.trans (B2.mono B1.size)
  clear ho1 ho2 hx1 hx2 ho1' B1 B2
  go_wp2_with fail
  refine (covered6 w'.heap.size len w2 (by omega) hb).mono ?_
  rintro e w2' ⟨rfl, rfl⟩
  go_wp2_with fail
  have hD2 : (w2'.setCell ⟨w'.heap.size, 18 + i, none⟩ (.int .u8 x)).cell? ⟨w'.heap.size, 18 + i, none⟩ = some (.int .u8 x) := by
    have := hcx
    go_simp
  have D2 : Hid _ := hD2
  clear hD2
  have D1 : Hid (∀ j, j < len → ¬ j = 18 + i → (w2'.setCell ⟨w'.heap.size, 18 + i, none⟩ (.int .u8 x)).cell? ⟨w'.heap.size, j, none⟩ = some (.int .u8 (z j))) := fun j hj hne => by
    have := C1.out j hj
    go_simp
  have D3 : Hid (∀ j, j < len → (w2'.setCell ⟨w'.heap.size, 18 + i, none⟩ (.int .u8 x)).cell? ⟨w1.heap.size, j, none⟩ = some (.int .u8 (z j))) := fun j hj => by
    have := C2.out j hj
    have hne : ¬ w1.heap.size = w'.heap.size := by omega
    go_simp
  have B4 : Below w'.heap.size w' (w2'.setCell ⟨w'.heap.size, 18 + i, none⟩ (.int .u8 x)) := B3.setCell (Nat.le_refl _) _
  clear B3 C1 C2 hcx hfx
  generalize w2'.setCell ⟨w'.heap.size, 18 + i, none⟩ (.int .u8 x) = w3 at *
  have hcx := D2.out
  refine (covered6 w'.heap.size len w3 (by omega) hb).mono ?_
  rintro e w3' ⟨rfl, rfl⟩
  have hne0 : (((len - 18 : Nat) : Int) != ((len - 18 : Nat) : Int)) = false := by simp
  have hne1 : (x != x) = false := by simp
  go_wp2_with fail
  go_loop [10] (fun v => ∃ k : Nat, k ≤ len ∧ v = .int .i64 k) (fun v => len - (intOf v).toNat)
  case atStart => exact ⟨0, Nat.zero_le _, rfl⟩
  case round =>
    obtain ⟨k, hk, rfl⟩ := hrel
    by_cases hlt : k < len
    · have hc3 := D3.out k hlt
      by_cases he : k = 18 + i
      · subst he
        have hq : (18 + (i : Int) == 18 + (i : Int)) = true := by simp
        go_wp2
        go_round
        case rel => exact ⟨18 + i + 1, by omega, by go_num⟩
        case measure => simp [intOf]; omega
      · have hc1 := D1.out k hlt he
        have hq : ((k : Int) == 18 + (i : Int)) = false := by simp; omega
        have hz : (z k != z k) = false := by simp
        go_wp2
        go_round
        case rel => exact ⟨k + 1, by omega, by go_num⟩
        case measure => simp [intOf]; omega
    · go_wp2
      go_ret
      exact ⟨rfl, B4⟩

/-! ### STEP 1: THE WALK: the Go text returns true, AND WRITES NOTHING THAT WAS THERE: 'Below w.heap.size w w'' (Derived/Below.lean: '.refl', '.alloc', '.drew', '.setCell' at a new block, '.trans'). Open each 'IsRow' by 'rcases' AHEAD of 'go_enter'; part every test ahead of the walk. -/
theorem walk (a0 : Option Addr) (len0 cap0 : Nat) (z0 : List Int) (a1 : Int) (a2 : Int) (w : World) (w0 : IsRow .u8 w a0 len0 cap0 z0) (w1 : (Lit.int .i64 a1).wf = true) (w2 : (Lit.int .u8 a2).wf = true) :
    Calls Try.prog 3 #[.slice a0 len0 cap0, .int .i64 a1, .int .u8 a2] w fun e w' => e = .returned (.bool true) ∧ Below w.heap.size w w' := by
  rcases w0 with ⟨rfl, rfl, rfl, rfl⟩ | ⟨x, rfl, hl, hm, hz, hcell, hwz⟩
  · have h4 := bytes4 none 0 0 a1 a2 w (by decide)
    rw [decide_eq_true (by omega)] at h4
    go_enter Try.func3, Try.ntmps3
    go_wp2_with (go_at_call 4; refine h4.mono ?_; rintro e w' ⟨rfl, rfl⟩)
    go_ret
    exact ⟨rfl, Below.refl _ _⟩
  · have h4 := bytes4 (some x) len0 cap0 a1 a2 w (by unfold maxLen at *; omega)
    by_cases hb : len0 ≤ 1048576
    · rw [decide_eq_true hb] at h4
      by_cases h18 : 18 ≤ len0
      · by_cases hi : 0 ≤ a1 ∧ a1 < (len0 : Int) - 18
        · obtain ⟨b, off, spot⟩ := x
          have hspot : spot = none := by simpa [Addr.add] using World.cell?_spot (hcell 0 (by omega))
          subst hspot
          obtain ⟨i, rfl⟩ := Int.eq_ofNat_of_zero_le hi.1
          have hil : i + 18 < len0 := by omega
          have hc : ∀ j, j < len0 → w.cell? ⟨b, off + j, none⟩ = some (.int .u8 (z0.getD j 0)) := fun j hj => by
            have := hcell j (by omega)
            rw [Addr.add_lit] at this; exact this
          have hbl : b < w.heap.size := World.block_lt_of_cell? w _ (hc 0 (by omega))
          exact walk_in b off len0 cap0 (fun j => z0.getD j 0) i a2 w hbl hc hil hb h4
        · rcases (show a1 < 0 ∨ (0 ≤ a1 ∧ (len0 : Int) - 18 ≤ a1) by omega) with h1 | ⟨h1, h2⟩
          all_goals
            go_enter Try.func3, Try.ntmps3
            go_wp2_with (go_at_call 4; refine h4.mono ?_; rintro e w' ⟨rfl, rfl⟩)
            go_ret
            exact ⟨rfl, Below.refl _ _⟩
      · go_enter Try.func3, Try.ntmps3
        go_wp2_with (go_at_call 4; refine h4.mono ?_; rintro e w' ⟨rfl, rfl⟩)
        go_ret
        exact ⟨rfl, Below.refl _ _⟩
    · rw [decide_eq_false hb] at h4
      go_enter Try.func3, Try.ntmps3
      go_wp2_with (go_at_call 4; refine h4.mono ?_; rintro e w' ⟨rfl, rfl⟩)
      go_ret
      exact ⟨rfl, Below.refl _ _⟩

/-! ### THE ROW's STEP: WRITTEN OUT: LEAVE IT -/
set_option maxRecDepth 100000 in
theorem lifted (os : Os) (started : os.Started) (H : Type) (enc : TypeId × Value → H) :
    ReturnsInHanded {} Try.checked os 3 .any (Rows.fnCoveredIsAWindowOntoTheBufferAfterMaxHeadSpec.pre6 enc Try.prog Try.f3 Rows.fnCoveredIsAWindowOntoTheBufferAfterMaxHeadRow.domain false) (Rows.fnCoveredIsAWindowOntoTheBufferAfterMaxHeadSpec.post enc Try.prog Try.f3 false true false false) := by
  refine returnsInHanded_of_change (C := Try.checked) own started (by kernel_rfl) Try.func3
    (ChangeSpec.witness6 (enc := enc) (C := Try.checked) false ⟨#[], #[.slice none 0 0, .int .i64 0, .int .u8 0], []⟩ 8 (by kernel_rfl) (by kernel_rfl) (by kernel_rfl) (by kernel_rfl)) ?_
  intro W base args ds gs before hval0 hW hcnd _
  have hval : ∀ (j : Nat) t v, Try.f3.params[j]? = some t → args[j]? = some v → Value.okWide Try.prog W .any base t v := hval0
  have hW' := hW
  obtain ⟨p, q, hA0, hV, rfl, hfz, hnd⟩ := hW
  have hA : DataW.TrodAll enc Try.prog W 0 (fun _ => true) true Try.f3.params.toList args.toList ds p := hA0
  rw [Try.params3] at hA hval
  obtain ⟨v0, vs0, d0, ds0, p0, q0, hargs, rfl, rfl, h0, r0⟩ := trodAll_cons hA
  obtain ⟨v1, vs1, d1, ds1, p1, q1, rfl, rfl, rfl, h1, r1⟩ := trodAll_cons r0
  obtain ⟨v2, vs2, d2, ds2, p2, q2, rfl, rfl, rfl, h2, r2⟩ := trodAll_cons r1
  obtain ⟨rfl, rfl, rfl⟩ := trodAll_nil r2
  obtain rfl : args = #[v0, v1, v2] := by cases args; simp_all
  obtain ⟨rfl, rfl⟩ := trodVars_none hV
  obtain ⟨a0, len0, cap0, rfl⟩ := okWide_slice Try.underlying22 (hval 0 22 v0 rfl rfl)
  have k0 := h0
  have lt0 : ∀ x ∈ p0, x.block < W.heap.size := by obtain ⟨m, hm⟩ := k0; exact DataW.trod_lt m _ _ _ hm
  obtain ⟨z0, w0⟩ : ∃ zs, IsRow .u8 W a0 len0 cap0 zs := by
    obtain ⟨fuel, hf⟩ := h0
    rcases open_ints Try.underlying22 Try.underlying5 (by kernel_rfl) hf with ⟨hcs, _⟩ | ⟨x, l, c, zs, hcs, _, hl, hm, hz, _, hcell, hwz⟩
    · simp [Value.cells] at hcs
      obtain ⟨rfl, rfl, rfl⟩ := hcs
      exact ⟨[], .inl ⟨rfl, rfl, rfl, rfl⟩⟩
    · simp [Value.cells] at hcs
      obtain ⟨rfl, rfl, rfl⟩ := hcs
      exact ⟨zs, .inr ⟨_, rfl, hl, hm, by simpa using hz, hcell, hwz⟩⟩
  obtain ⟨a1, rfl, rfl, rfl, w1⟩ := open_int Try.underlying3 (hval 1 3 v1 rfl rfl) h1
  obtain ⟨a2, rfl, rfl, rfl, w2⟩ := open_int Try.underlying5 (hval 2 5 v2 rfl rfl) h2
  clear hA0 hval0
  refine (walk a0 len0 cap0 z0 a1 a2 W w0 w1 w2).mono fun e W' ⟨he, bel⟩ => ?_
  subst he
  exact ⟨_, rfl, _, _, _, [], _, [], hW', trodAll_mk1 (shut_bool Try.underlying4 _), (trodAll_cons_mk (Below.trod laidOut (by kernel_rfl) (of_decide_eq_true (by kernel_rfl)) k0 bel lt0) (trodAll_cons_mk (shut_int Try.underlying3 w1) (trodAll_cons_mk (shut_int Try.underlying5 w2) trodAll_mk0))), rfl, bel.frame _, fun h => by cases h⟩

theorem over : Rows.fnCoveredIsAWindowOntoTheBufferAfterMaxHeadRow.holds Try.pinned (OpenSpec.ofChange Rows.fnCoveredIsAWindowOntoTheBufferAfterMaxHeadSpec) :=
  OpenClaim.holds_of_wide 3 Try.f3 rfl rfl rfl rfl rfl rfl rfl ⟨rfl, rfl, rfl, rfl, rfl⟩ rfl rfl rfl rfl rfl (by kernel_rfl) Try.func3 (by kernel_rfl)
    (of_decide_eq_true (by kernel_rfl)) (by unfold Func.isWrapper; first | (rw [if_pos (by decide +kernel)]; kernel_rfl) | (rw [if_neg (by decide +kernel)]; exact ⟨rfl, rfl⟩))
    (fun os started H enc _ => lifted os started H enc)

/-- ████ THE STATEMENT ████ -/
theorem proved : Rows.FnCoveredIsAWindowOntoTheBufferAfterMaxHeadSaid := over
#print axioms proved
end Go.Proofs.Qxb6616497a.fnCoveredIsAWindowOntoTheBufferAfterMaxHead
