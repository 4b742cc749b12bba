/-
  THE FIRST LAW's WALK: the ends are the running lengths.
-/
import Derived.Test.Qxb6616476aWalks
namespace Go.Proofs.Qxb6616476a
open Go.RowKit

/-- The call answers a Bool; where it says yes, p holds; the world is as it was. -/
def YesMeans (p : Prop) (w : World) (e : Ending) (w' : World) : Prop := ∃ r, e = .returned (.bool r) ∧ (r = true → p) ∧ w' = w

set_option maxHeartbeats 1000000 in
/-- The bound on lengths, laid by program: where it says yes, number and lengths add up to at most 2^20. -/
theorem bytes13 (ao : Option Addr) (len cap : Nat) (ss : List ByteArray) (w : World) (hr : Reads w ao len ss) :
    Calls Try.prog 13 #[.slice ao len cap] w (YesMeans (len + sumTo ss len ≤ 1048576) w) := by
  have HR : Hid _ := hr
  clear hr
  by_cases hl : len ≤ 1048576
  · go_enter Try.func13, Try.ntmps13
    go_wp2
    go_loop [3, 4] (fun z i => ∃ k : Nat, k ≤ len ∧ i = .int .i64 k ∧ z = .int .i64 ((len : Int) + (sumTo ss k : Int)) ∧ len + sumTo ss k ≤ 1048576) (fun _ i => len - (intOf i).toNat)
    case atStart => exact ⟨0, Nat.zero_le _, rfl, by simp [sumTo], by simp [sumTo]; omega⟩
    case round =>
      obtain ⟨k, hk, rfl, rfl, hb⟩ := hrel
      by_cases hlt : k < len
      · obtain ⟨b, off, rfl, hbl, hc⟩ := HR.out k hlt
        have HS : Hid _ := sumTo_succ ss k
        generalize ss.getD k ByteArray.empty = s at *
        by_cases h1 : s.size ≤ 1048576
        · by_cases h2 : len + (sumTo ss k + s.size) ≤ 1048576
          · go_wp2
            go_round
            case rel => exact ⟨k + 1, by omega, by go_num, by rw [HS.out]; go_num, by rw [HS.out]; exact h2⟩
            case measure => simp [intOf]; omega
          · go_wp2
            go_ret
            exact ⟨false, rfl, by simp, rfl⟩
        · go_wp2
          go_ret
          exact ⟨false, rfl, by simp, rfl⟩
      · obtain rfl : k = len := by omega
        have HB : Hid _ := hb
        clear hb
        go_wp2
        go_ret
        exact ⟨true, rfl, fun _ => HB.out, rfl⟩
  · go_enter Try.func13, Try.ntmps13
    go_wp2
    go_ret
    exact ⟨false, rfl, by simp, rfl⟩

/-- A row of numbers of the call's own, told cell by cell. -/
theorem own_cell {w : World} {base : Nat} {eo : Option Addr} {n ec : Nat} {zs : List Int} (h : w.ownsRow base 3 1 (.slice eo n ec) n (zs.map (Value.int .i64))) (i : Nat) (hi : i < n) {z : Int} (hz : zs[i]? = some z) :
    ∃ g, eo = some ⟨g, 0, none⟩ ∧ w.cell? ⟨g, i, none⟩ = some (.int .i64 z) := by
  rcases h.2 with ⟨_, rfl⟩ | ⟨g, cap, cur, hv, r⟩
  · omega
  · cases hv
    refine ⟨g, rfl, ?_⟩
    rw [World.ownsRow.cellAt h i (by omega)]
    simp [hz]

set_option maxHeartbeats 2000000 in
theorem law6 (ao : Option Addr) (len cap : Nat) (ss : List ByteArray) (w : World) (hr : Reads w ao len ss) :
    Calls Try.prog 6 #[.slice ao len cap] w fun e w' => e = .returned (.bool true) ∧ Below w.heap.size w w' := by
  have h13 := bytes13 ao len cap ss w hr
  have HR : Hid _ := hr
  clear hr
  go_enter Try.func6, Try.ntmps6
  go_wp2_with fail
  refine h13.mono ?_
  rintro e w' ⟨r, rfl, hyes, rfl⟩
  clear h13
  cases r
  · clear hyes
    go_wp2
    go_ret
    exact ⟨rfl, Below.refl _ _⟩
  · have hsum := hyes rfl
    clear hyes
    go_wp2_with fail
    go_loop [3, 4] (fun z i => ∃ k : Nat, k ≤ len ∧ i = .int .i64 k ∧ z = .int .i64 (16 * (k : Int) + (sumTo ss k : Int))) (fun _ i => len - (intOf i).toNat)
    case atStart => exact ⟨0, Nat.zero_le _, rfl, by simp [sumTo]⟩
    case round =>
      obtain ⟨k, hk, rfl, rfl⟩ := hrel
      by_cases hlt : k < len
      · obtain ⟨b, off, rfl, hbl, hc⟩ := HR.out k hlt
        have hle := sumTo_le ss (show k + 1 ≤ len by omega)
        rw [sumTo_succ] at hle
        have HS : Hid _ := sumTo_succ ss k
        generalize ss.getD k ByteArray.empty = s at *
        by_cases h1 : 16 * (k : Int) + (sumTo ss k : Int) + (16 + (s.size : Int)) ≤ 1048576
        · go_wp2
          go_round
          case rel => exact ⟨k + 1, by omega, by go_num, by rw [HS.out]; go_num⟩
          case measure => simp [intOf]; omega
        · go_wp2
          go_ret
          exact ⟨rfl, Below.refl _ _⟩
      · go_wp2_with fail
        refine (ends14 ao len cap ss _ HR.out (by omega) (by omega)).mono ?_
        rintro e w1 ⟨eo, ec, rfl, hown, hb⟩
        have HR1 : Hid _ := Reads.below HR.out hb
        have HO : Hid _ := hown
        clear hown
        have hne : ((len : Int) != (len : Int)) = false := by simp
        go_wp2_with fail
        go_loop [6, 7] (fun z i => ∃ k : Nat, k ≤ len ∧ i = .int .i64 k ∧ z = .int .i64 (sumTo ss k : Int)) (fun _ i => len - (intOf i).toNat)
        case atStart => exact ⟨0, Nat.zero_le _, rfl, by simp [sumTo]⟩
        case round =>
          obtain ⟨j, hj, rfl, rfl⟩ := hrel
          by_cases hlt2 : j < len
          · obtain ⟨b, off, rfl, hbl, hc⟩ := HR1.out j hlt2
            obtain ⟨g, rfl, hg⟩ := own_cell HO.out j hlt2 (endsTo_get ss len j hlt2)
            rw [sumTo_succ] at hg
            have hle := sumTo_le ss (show j + 1 ≤ len by omega)
            rw [sumTo_succ] at hle
            have HS : Hid _ := sumTo_succ ss j
            generalize ss.getD j ByteArray.empty = s at *
            go_wp2
            go_round
            case rel => exact ⟨j + 1, by omega, by go_num, by rw [HS.out]; go_num⟩
            case measure => simp [intOf]; omega
          · go_wp2
            go_ret
            exact ⟨rfl, hb⟩
end Go.Proofs.Qxb6616476a
