/-
  THE WALKS: a clone is a row of its own that holds what the source held; 'covered' is the window behind the first 18 cells.
-/
import Derived.Test.Qxb6616497aRows
import Derived.WalkKit
import Derived.WalkSpells
import Derived.Lib.SliceRun
import Derived.Laws.OwnMore
namespace Go.Proofs.Qxb6616497a
open Go.RowKit

theorem info5 : (Try.prog.info? 5).map (fun i => (i.zero, i.size, i.bytes)) = some (some (.int .u8 0), 1, 1) := by kernel_rfl

set_option maxHeartbeats 1000000 in
/-- zzfClone of a slice that is not nil. -/
theorem clone5 (b off len cap : Nat) (z : Nat → Int) (w : World) (hb : b < w.heap.size) (hc : ∀ i, i < len → w.cell? ⟨b, off + i, none⟩ = some (.int .u8 (z i))) (hl : len ≤ 1048576) :
    Calls Try.prog 5 #[.slice (some ⟨b, off, none⟩) len cap] w fun e w' => e = .returned (.slice (some ⟨w.heap.size, 0, none⟩) len len) ∧
      ∃ xs, w'.ownsRow w.heap.size 5 1 (.slice (some ⟨w.heap.size, 0, none⟩) len len) len xs ∧ (∀ i, i < len → xs[i]? = some (.int .u8 (z i))) ∧ Below w.heap.size w w' := by
  obtain ⟨i0, hi, hz0, hz1, hz2⟩ := info_parts info5
  have heq := fun w => Lib.run_eql_slice_nil (P := Try.prog) w 22 5 (some ⟨b, off, none⟩) len cap 0 0 Try.underlying22
  have HC : Hid _ := hc
  clear hc
  go_enter Try.func5, Try.ntmps5
  go_wp2_with (first
    | (at_make; refine wpList_make_full _ rfl _ _ 22 rfl w.heap.size 5 i0 (.int .u8 0) 1 Try.underlying22 hi hz0 hz1 .i64 .i64 _ _ len rfl rfl rfl rfl (by rw [hz2]; omega) (by unfold maxLen; omega) (Nat.le_refl _) ?_; intro w1 hown1 hg1))
  have B1 : Below w.heap.size w w1 := (Below.refl _ w).grown hg1 (Nat.le_refl _) (fun _ h => by cases h)
  have HO : Hid _ := hown1
  clear hown1 hg1
  go_loopw [4] (fun i wr => ∃ (k : Nat) (xs : List Value), k ≤ len ∧ i = .int .i64 k ∧ wr.ownsRow w.heap.size 5 1 (.slice (some ⟨w.heap.size, 0, none⟩) len len) len xs ∧ (∀ i, i < k → xs[i]? = some (.int .u8 (z i))) ∧ Below w.heap.size w wr)
    (fun i _ => len - (intOf i).toNat)
  case atStart => exact ⟨0, _, Nat.zero_le _, rfl, HO.out, fun i hi => absurd hi (Nat.not_lt_zero _), B1⟩
  case round =>
    obtain ⟨k, xs, hk, rfl, hown, hxs, hbel⟩ := hrel
    have HX : Hid _ := hxs
    have HW : Hid _ := hown
    clear hown hxs B1
    by_cases hlt : k < len
    · have hc1 := (hbel.cell (p := ⟨b, off + k, none⟩) hb).trans (HC.out k hlt)
      obtain ⟨y, hc2⟩ : ∃ y, wr.cell? ⟨w.heap.size, k, none⟩ = some y := by
        have hlen : xs.length = len := by simpa using HW.out.1
        exact ⟨xs[k], by rw [World.ownsRow.cellAt HW.out k (by omega), List.getElem?_eq_getElem (by omega)]⟩
      have hf2 := World.ownsRow.frozenAt HW.out k
      go_wp2
      go_roundw
      case rel =>
        obtain ⟨h1, h2⟩ := World.ownsRow.stored HW.out k (.int .u8 (z k))
        refine ⟨k + 1, _, by omega, by go_num, h1, fun i hi => ?_, hbel.setCell (Nat.le_refl _) _⟩
        have hlen : xs.length = len := by simpa using HW.out.1
        by_cases e : i = k
        · subst e; rw [List.getElem?_set_self (by omega)]
        · rw [List.getElem?_set_ne (fun h => e h.symm)]; exact HX.out i (by omega)
      case measure => simp [intOf]; omega
    · obtain rfl : k = len := by omega
      go_wp2
      go_ret
      exact ⟨rfl, xs, HW.out, HX.out, hbel⟩

/-- covered: the window behind the first 18 cells. -/
theorem covered7 (b len : Nat) (w : World) (h : 18 < len) (hl : len ≤ 1048576) :
    Calls Try.prog 7 #[.slice (some ⟨b, 0, none⟩) len len] w fun e w' => e = .returned (.slice (some ⟨b, 18, none⟩) (len - 18) (len - 18)) ∧ w' = w := by
  go_enter Try.func7, Try.ntmps7
  go_wp2
  go_ret
  exact ⟨rfl, rfl⟩

theorem covered6 (b len : Nat) (w : World) (h : 18 < len) (hl : len ≤ 1048576) :
    Calls Try.prog 6 #[.slice (some ⟨b, 0, none⟩) len len] w fun e w' => e = .returned (.slice (some ⟨b, 18, none⟩) (len - 18) (len - 18)) ∧ w' = w := by
  go_enter Try.func6, Try.ntmps6
  go_wp2_with (go_at_call 7; refine (covered7 _ _ _ h hl).mono ?_; rintro e w' ⟨rfl, rfl⟩)
  go_ret
  exact ⟨rfl, rfl⟩

theorem bytes4 (ao : Option Addr) (len cap : Nat) (i x : Int) (w : World) (hl : len ≤ maxLen) :
    Calls Try.prog 4 #[.slice ao len cap, .int .i64 i, .int .u8 x] w fun e w' => e = .returned (.bool (decide (len ≤ 1048576))) ∧ w' = w := by
  unfold maxLen at hl
  by_cases h : len ≤ 1048576
  · rw [decide_eq_true h]
    go_enter Try.func4, Try.ntmps4
    go_wp2
    go_ret
    exact ⟨rfl, rfl⟩
  · rw [decide_eq_false h]
    go_enter Try.func4, Try.ntmps4
    go_wp2
    go_ret
    exact ⟨rfl, rfl⟩
end Go.Proofs.Qxb6616497a
