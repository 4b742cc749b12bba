/-
  THE SECOND LAW's bound on lengths, laid by program, and small words for its walk.
-/
import Derived.Test.Qxb6616476aLawA
namespace Go.Proofs.Qxb6616476a
open Go.RowKit

set_option maxHeartbeats 2000000 in
theorem bytes15 (ao bo : Option Addr) (la ca lb cb : Nat) (sa sb : List ByteArray) (w : World) (hra : Reads w ao la sa) (hrb : Reads w bo lb sb) :
    Calls Try.prog 15 #[.slice ao la ca, .slice bo lb cb] w (YesMeans (la + sumTo sa la + lb + sumTo sb lb ≤ 1048576) w) := by
  have HA : Hid _ := hra
  have HB : Hid _ := hrb
  clear hra hrb
  by_cases hl : la ≤ 1048576
  · go_enter Try.func15, Try.ntmps15
    go_wp2
    go_loop [5, 6] (fun z i => ∃ k : Nat, k ≤ la ∧ i = .int .i64 k ∧ z = .int .i64 ((la : Int) + (sumTo sa k : Int)) ∧ la + sumTo sa k ≤ 1048576) (fun _ i => la - (intOf i).toNat)
    case atStart => exact ⟨0, Nat.zero_le _, rfl, by simp [sumTo], by simp [sumTo]; omega⟩
    case round =>
      obtain ⟨k, hk, rfl, rfl, hb⟩ := hrel
      by_cases hlt : k < la
      · obtain ⟨b, off, rfl, hbl, hc⟩ := HA.out k hlt
        have HS : Hid _ := sumTo_succ sa k
        generalize sa.getD k ByteArray.empty = s at *
        by_cases h1 : s.size ≤ 1048576
        · by_cases h2 : la + (sumTo sa k + s.size) ≤ 1048576
          · go_wp2
            go_round
            case rel => exact ⟨k + 1, by omega, by go_num, by rw [HS.out]; go_num, by rw [HS.out]; exact h2⟩
            case measure => simp [intOf]; omega
          · go_wp2
            go_ret
            exact ⟨false, rfl, by simp, rfl⟩
        · go_wp2
          go_ret
          exact ⟨false, rfl, by simp, rfl⟩
      · obtain rfl : k = la := by omega
        by_cases hl2 : lb ≤ 1048576
        · by_cases hl3 : k + sumTo sa k + lb ≤ 1048576
          · go_wp2
            go_loop [5, 7] (fun z i => ∃ j : Nat, j ≤ lb ∧ i = .int .i64 j ∧ z = .int .i64 ((k : Int) + (sumTo sa k : Int) + (lb : Int) + (sumTo sb j : Int)) ∧ k + sumTo sa k + lb + sumTo sb j ≤ 1048576) (fun _ i => lb - (intOf i).toNat)
            case atStart => exact ⟨0, Nat.zero_le _, rfl, by simp [sumTo], by simp [sumTo]; omega⟩
            case round =>
              obtain ⟨j, hj, rfl, rfl, hb2⟩ := hrel
              by_cases hlt2 : j < lb
              · obtain ⟨b, off, rfl, hbl, hc⟩ := HB.out j hlt2
                have HS : Hid _ := sumTo_succ sb j
                generalize sb.getD j ByteArray.empty = s at *
                by_cases h1 : s.size ≤ 1048576
                · by_cases h2 : k + sumTo sa k + lb + (sumTo sb j + s.size) ≤ 1048576
                  · go_wp2
                    go_round
                    case rel => exact ⟨j + 1, by omega, by go_num, by rw [HS.out]; go_num, by rw [HS.out]; exact h2⟩
                    case measure => simp [intOf]; omega
                  · go_wp2
                    go_ret
                    exact ⟨false, rfl, by simp, rfl⟩
                · go_wp2
                  go_ret
                  exact ⟨false, rfl, by simp, rfl⟩
              · obtain rfl : j = lb := by omega
                have HB2 : Hid _ := hb2
                clear hb2
                go_wp2
                go_ret
                exact ⟨true, rfl, fun _ => HB2.out, rfl⟩
          · go_wp2
            go_ret
            exact ⟨false, rfl, by simp, rfl⟩
        · go_wp2
          go_ret
          exact ⟨false, rfl, by simp, rfl⟩
  · go_enter Try.func15, Try.ntmps15
    go_wp2
    go_ret
    exact ⟨false, rfl, by simp, rfl⟩

theorem info9 : (Try.prog.info? 9).map (fun i => (i.zero, i.size, i.bytes)) = some (some (.string ByteArray.empty), 1, 16) := by kernel_rfl

/-- What an append of such a slice reads. -/
theorem Reads.cells {w : World} {ao : Option Addr} {len : Nat} {ss : List ByteArray} (h : Reads w ao len ss) : ∀ ad, ao = some ad → ∀ j u, ((ss.take len).map Value.string)[j]? = some u → w.cell? (ad.add j) = some u := by
  intro ad hao j u hu
  have hj : j < len := by
    have := (List.getElem?_eq_some_iff.1 hu).1
    simp at this; omega
  obtain ⟨b, off, e, _, hc⟩ := h j hj
  rw [hao] at e
  cases e
  rw [Addr.add_lit, hc]
  rw [List.getElem?_map, List.getElem?_take_of_lt hj] at hu
  cases hs : ss[j]? with
  | none => rw [hs] at hu; cases hu
  | some s => rw [hs] at hu; simp [List.getD, hs] at hu ⊢; exact hu

theorem texts_one (ss : List ByteArray) : ∀ u ∈ ss.map Value.string, u.oneCell' = true := by
  intro u hu
  obtain ⟨s, _, rfl⟩ := List.mem_map.1 hu
  rfl

/-- A row of texts of the call's own, as a slice that is read. -/
theorem reads_own {w : World} {base g n c : Nat} {ss : List ByteArray} (h : w.ownsRow base 9 1 (.slice (some ⟨g, 0, none⟩) n c) n (ss.map Value.string)) : Reads w (some ⟨g, 0, none⟩) n ss := by
  intro i hi
  have hlt := (h.lt g rfl).2
  have hl : ss.length = n := by simpa using h.1
  refine ⟨g, 0, rfl, hlt, ?_⟩
  rw [Nat.zero_add, World.ownsRow.cellAt h i (by omega)]
  simp [List.getD, show i < ss.length by omega]

/-- A slice of numbers that lies in w: cell i holds f i. -/
def Nums (w : World) (eo : Option Addr) (n : Nat) (f : Nat → Int) : Prop :=
  ∀ i, i < n → ∃ g, eo = some ⟨g, 0, none⟩ ∧ g < w.heap.size ∧ w.cell? ⟨g, i, none⟩ = some (.int .i64 (f i))

theorem nums_own {w : World} {base : Nat} {eo : Option Addr} {n ec : Nat} {ss : List ByteArray} (h : w.ownsRow base 3 1 (.slice eo n ec) n ((endsTo ss n).map (Value.int .i64))) : Nums w eo n (fun i => (sumTo ss (i + 1) : Int)) := by
  intro i hi
  obtain ⟨g, rfl, hc⟩ := own_cell h i hi (endsTo_get ss n i hi)
  exact ⟨g, rfl, (h.lt g rfl).2, hc⟩

theorem Nums.below {w w' : World} {eo : Option Addr} {n : Nat} {f : Nat → Int} (h : Nums w eo n f) (hb : Below w.heap.size w w') : Nums w' eo n f := fun i hi => by
  obtain ⟨g, e, hlt, hc⟩ := h i hi
  exact ⟨g, e, Nat.lt_of_lt_of_le hlt hb.size, (hb.cell (p := ⟨g, i, none⟩) hlt).trans hc⟩
end Go.Proofs.Qxb6616476a
