/-
  THE WALKS: each Go function on the two laws' roads computes a plain function.
-/
import Derived.Test.Qxb6616469aRows
import Derived.Test.Qxb6616469aPlain
import Derived.WalkKit
import Derived.WalkSpells
import Derived.Deep.QuietTactic
import Derived.BigQuiet
namespace Go.Proofs.Qxb6616469a
open Go.RowKit

theorem ret_int {k : IntKind} {a b : Int} (h : a = b) : Ending.returned (.int k a) = .returned (.int k b) := by rw [h]

theorem ret_bool {a b : Bool} (h : a = b) : Ending.returned (.bool a) = .returned (.bool b) := by rw [h]

theorem byte_at (s : ByteArray) (m : Nat) (h : m < s.size) : s.data[m]! = s[m] := by
  have h' : m < s.data.size := h
  rw [getElem!_pos s.data m h']; rfl

theorem byte_list (s : ByteArray) (m : Nat) (h : m < s.size) : s.data.toList[m]'(by simpa using h) = s[m] := by
  rw [← at_data s m h, byte_at s m h]

theorem hit12 (s : ByteArray) (m : Nat) (h : m < s.size) (hc : ((s[m].toNat : Int) == 47) = true) : Lib.lastIdx s 47 (m + 1) = m :=
  Lib.lastIdx_hit s 47 m (by rw [byte_at s m h]; simpa using hc)
theorem miss12 (s : ByteArray) (m : Nat) (h : m < s.size) (hc : ((s[m].toNat : Int) == 47) = false) : Lib.lastIdx s 47 (m + 1) = Lib.lastIdx s 47 m :=
  Lib.lastIdx_miss s 47 m (by rw [byte_at s m h]; simpa using hc)

set_option maxHeartbeats 400000 in
/-- internal/bytealg.LastIndexByteString at '/'. -/
theorem last12 (s : ByteArray) (w : World) (hs : s.size ≤ 4611686018427387904) :
    Calls Try.prog 12 #[.string s, .int .u8 47] w fun e w' => e = .returned (.int .i64 (Lib.lastIndexByte s 47)) ∧ w' = w := by
  go_enter Try.func12, Try.ntmps12
  go_wp2
  go_loop [5] (fun i => ∃ k : Nat, k ≤ s.size ∧ i = .int .i64 ((k : Int) - 1) ∧ Lib.lastIdx s 47 s.size = Lib.lastIdx s 47 k) (fun i => (intOf i + 1).toNat)
  case atStart => exact ⟨s.size, Nat.le_refl _, rfl, rfl⟩
  case round =>
    obtain ⟨k, hk, rfl, hL⟩ := hrel
    have HL : Hid _ := hL
    clear hL
    cases k with
    | zero =>
      go_wp2
      go_ret
      exact ⟨ret_int (by show -1 = Lib.lastIdx s 47 s.size; rw [HL.out]; rfl), rfl⟩
    | succ m =>
      have hm : m < s.size := by omega
      go_wp2
      · go_ret
        exact ⟨ret_int (by show (m : Int) = Lib.lastIdx s 47 s.size; rw [HL.out, hit12 s m hm (by assumption)]), rfl⟩
      · go_round
        case rel => exact ⟨m, by omega, rfl, by rw [HL.out, miss12 s m hm (by assumption)]⟩
        case measure => simp [intOf]
theorem last11 (s : ByteArray) (w : World) (hs : s.size ≤ 4611686018427387904) :
    Calls Try.prog 11 #[.string s, .int .u8 47] w fun e w' => e = .returned (.int .i64 (Lib.lastIndexByte s 47)) ∧ w' = w := by
  go_enter Try.func11, Try.ntmps11
  go_wp2_with (go_at_call 12; refine (last12 _ _ hs).mono ?_; rintro e w' ⟨rfl, rfl⟩)
  go_ret
  exact ⟨rfl, rfl⟩

theorem base10 (s : ByteArray) (w : World) (hs : s.size ≤ 4611686018427387904) :
    Calls Try.prog 10 #[.string s] w fun e w' => e = .returned (.string (bn s)) ∧ w' = w := by
  have h0 : -1 ≤ Lib.lastIndexByte s 47 ∧ Lib.lastIndexByte s 47 < s.size := by
    rcases Lib.lastIndexByte_spec s 47 with ⟨e, _⟩ | ⟨i, hi, e, _⟩ <;> rw [e] <;> omega
  have hb : bn s = s.extract (Lib.lastIndexByte s 47 + 1).toNat s.size := rfl
  have hcon := last11 s w hs
  rw [hb]
  clear hb
  generalize Lib.lastIndexByte s 47 = n at *
  obtain ⟨h1, h2⟩ := h0
  go_enter Try.func10, Try.ntmps10
  go_wp2_with (go_at_call 11; refine hcon.mono ?_; rintro e w' ⟨rfl, rfl⟩)
  go_ret
  exact ⟨rfl, rfl⟩

theorem base6 (s : ByteArray) (w : World) (hs : s.size ≤ 4611686018427387904) :
    Calls Try.prog 6 #[.string s] w fun e w' => e = .returned (.string (bn s)) ∧ w' = w := by
  go_enter Try.func6, Try.ntmps6
  go_wp2_with (go_at_call 10; refine (base10 _ _ hs).mono ?_; rintro e w' ⟨rfl, rfl⟩)
  go_ret
  exact ⟨rfl, rfl⟩

/-- Does the text hold a '/'? -/
def slashB (s : ByteArray) : Bool := decide ((47 : UInt8) ∈ s.data.toList)

theorem slash_yes (s : ByteArray) (k : Nat) (h : k < s.size) (hc : ((s[k].toNat : Int) == 47) = true) : slashB s = true := by
  have e : s[k] = 47 := byte_ne.1 (by simpa using hc)
  rw [← byte_list s k h] at e
  exact decide_eq_true (e ▸ List.getElem_mem _)
theorem slash_on (s : ByteArray) (k : Nat) (h : k < s.size) (hn : (47 : UInt8) ∉ s.data.toList.take k) (hc : ((s[k].toNat : Int) == 47) = false) : (47 : UInt8) ∉ s.data.toList.take (k + 1) := by
  rw [List.take_succ_eq_append_getElem (by simpa using h), byte_list s k h]
  intro hm
  rcases List.mem_append.1 hm with h1 | h1
  · exact hn h1
  · have e : s[k] = 47 := by simpa using (List.mem_singleton.1 h1).symm
    rw [e] at hc; cases hc
theorem slash_no (s : ByteArray) (k : Nat) (h : ¬ k < s.size) (hn : (47 : UInt8) ∉ s.data.toList.take k) : slashB s = false := by
  rw [List.take_of_length_le (by simp; omega)] at hn
  exact decide_eq_false hn

set_option maxHeartbeats 400000 in
theorem slash9 (s : ByteArray) (w : World) (hs : s.size ≤ 4611686018427387904) :
    Calls Try.prog 9 #[.string s] w fun e w' => e = .returned (.bool (slashB s)) ∧ w' = w := by
  go_enter Try.func9, Try.ntmps9
  go_wp2
  go_loop [3] (fun i => ∃ k : Nat, k ≤ s.size ∧ i = .int .i64 k ∧ (47 : UInt8) ∉ s.data.toList.take k) (fun i => s.size - (intOf i).toNat)
  case atStart => exact ⟨0, Nat.zero_le _, rfl, by simp⟩
  case round =>
    obtain ⟨k, hk, rfl, hn⟩ := hrel
    have HN : Hid ((47 : UInt8) ∉ s.data.toList.take k) := hn
    clear hn
    by_cases hlt : k < s.size
    · go_wp2
      · go_ret
        exact ⟨ret_bool (slash_yes s k hlt (by assumption)).symm, rfl⟩
      · go_round
        case rel => exact ⟨k + 1, by omega, by go_num, slash_on s k hlt HN.out (by assumption)⟩
        case measure => simp [intOf]; omega
    · go_wp2
      go_ret
      exact ⟨ret_bool (slash_no s k hlt HN.out).symm, rfl⟩

/-- The two bounds on lengths, laid by program. -/
theorem bytes8 (s : ByteArray) (k : Int) (w : World) (hs : s.size ≤ maxLen) :
    Calls Try.prog 8 #[.string s, .int .i64 k] w fun e w' => e = .returned (.bool (decide (s.size ≤ 1048576))) ∧ w' = w := by
  unfold maxLen at hs
  by_cases h : s.size ≤ 1048576
  · rw [decide_eq_true h]
    go_enter Try.func8, Try.ntmps8
    go_wp2
    go_ret
    exact ⟨rfl, rfl⟩
  · rw [decide_eq_false h]
    go_enter Try.func8, Try.ntmps8
    go_wp2
    go_ret
    exact ⟨rfl, rfl⟩

theorem bytes5 (s t : ByteArray) (w : World) (hs : s.size ≤ maxLen) (ht : t.size ≤ maxLen) :
    Calls Try.prog 5 #[.string s, .string t] w fun e w' => e = .returned (.bool (decide (s.size + t.size ≤ 1048576))) ∧ w' = w := by
  unfold maxLen at hs ht
  by_cases h : s.size + t.size ≤ 1048576
  · rw [decide_eq_true h]
    go_enter Try.func5, Try.ntmps5
    go_wp2
    go_ret
    exact ⟨rfl, rfl⟩
  · rw [decide_eq_false h]
    by_cases h1 : s.size ≤ 1048576
    · by_cases h2 : t.size ≤ 1048576
      all_goals
        go_enter Try.func5, Try.ntmps5
        go_wp2
        go_ret
        exact ⟨rfl, rfl⟩
    · go_enter Try.func5, Try.ntmps5
      go_wp2
      go_ret
      exact ⟨rfl, rfl⟩

set_option maxHeartbeats 400000 in
theorem tail7 (p b : ByteArray) (w : World) (hs : p.size ≤ 4611686018427387904) (hle : b.size ≤ p.size)
    (hb : ∀ i (h : i < b.size), ((b[i].toNat : Int) == 47) = false ∧ p[p.size - b.size + i]'(by omega) = b[i])
    (he : b.size = p.size ∨ ∃ h : b.size < p.size, ((p[p.size - b.size - 1]'(by omega)).toNat : Int) = 47) :
    Calls Try.prog 7 #[.string p, .string b] w fun e w' => e = .returned (.bool true) ∧ ∃ n, w' = w.drewN n := by
  have HB : Hid _ := hb
  have HE : Hid _ := he
  clear hb he
  go_enter Try.func7, Try.ntmps7
  go_wp2
  go_loopw [6] (fun i wr => ∃ k : Nat, k ≤ b.size ∧ i = .int .i64 k ∧ ∃ n, wr = w.drewN n) (fun i _ => b.size - (intOf i).toNat)
  case atStart => exact ⟨0, Nat.zero_le _, rfl, 0, rfl⟩
  case round =>
    obtain ⟨k, hk, rfl, n, rfl⟩ := hrel
    by_cases hlt : k < b.size
    · obtain ⟨h1, h2⟩ := HB.out k hlt
      have hne : (((p[p.size - b.size + k]'(by omega)).toNat : Int) != (b[k].toNat : Int)) = false := by rw [h2]; simp
      clear h2
      have hi1 : (k : Int) < (b.size : Int) := by omega
      have hi2 : (p.size : Int) - b.size + k < (p.size : Int) := by omega
      have hi3 : 0 ≤ (p.size : Int) - b.size + k := by omega
      go_wp2
      go_quiet (fail)
      go_wp2
      go_roundw
      case rel => exact ⟨k + 1, by omega, by go_num, _, rfl⟩
      case measure => simp [intOf]; omega
    · rcases HE.out with h1 | ⟨h1, h2⟩
      · have hq : ((b.size : Int) == (p.size : Int)) = true := by simp; omega
        go_wp2
        go_ret
        exact ⟨rfl, _, rfl⟩
      · have hq : ((b.size : Int) == (p.size : Int)) = false := by simp; omega
        have hi1 : 0 ≤ (p.size : Int) - b.size - 1 := by omega
        have hi2 : (p.size : Int) - b.size - 1 < (p.size : Int) := by omega
        have h47 : (((p[p.size - b.size - 1]'(by omega)).toNat : Int) == 47) = true := by rw [beq_iff_eq]; exact h2
        clear h2
        go_wp2
        go_ret
        exact ⟨rfl, _, rfl⟩
end Go.Proofs.Qxb6616469a
