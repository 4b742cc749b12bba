/-
  THE SECOND LAW's WALK: the ends of a joined script.
-/
import Derived.Test.Qxb6616476aBytes
namespace Go.Proofs.Qxb6616476a
open Go.RowKit

theorem joint_left (sa sb : List ByteArray) (la lb : Nat) (h : la ≤ sa.length) (i : Nat) (hi : i ≤ la) : sumTo (sa.take la ++ sb.take lb) i = sumTo sa i := by
  rw [sumTo_left _ _ i (by simp; omega), sumTo_take sa la i hi]

theorem joint_right (sa sb : List ByteArray) (la lb : Nat) (h : la ≤ sa.length) (j : Nat) (hj : j ≤ lb) : sumTo (sa.take la ++ sb.take lb) (la + j) = sumTo sa la + sumTo sb j := by
  have hl : (sa.take la).length = la := by simp; omega
  have := sumTo_right (sa.take la) (sb.take lb) j
  rw [hl] at this
  rw [this, sumTo_take sa la la (Nat.le_refl _), sumTo_take sb lb j hj]

theorem below_drewN {B : Nat} {w w1 : World} {n : Nat} (h : Below B w w1) : Below B w (w1.drewN n) := ⟨h.os, h.tape, h.output, h.size, h.block⟩

set_option maxRecDepth 100000 in
set_option maxHeartbeats 8000000 in
theorem law7 (ao bo : Option Addr) (la ca lb cb : Nat) (sa sb : List ByteArray) (w : World) (hra : Reads w ao la sa) (hrb : Reads w bo lb sb)
    (hna : ao = none → la = 0 ∧ ca = 0) (hnb : bo = none → lb = 0 ∧ cb = 0) (hsa : la ≤ sa.length) (hsb : lb ≤ sb.length) :
    Calls Try.prog 7 #[.slice ao la ca, .slice bo lb cb] w fun e w' => e = .returned (.bool true) ∧ Below w.heap.size w w' := by
  have h15 := bytes15 ao bo la ca lb cb sa sb w hra hrb
  obtain ⟨i0, hi, hz0, hz1, hz2⟩ := info_parts info9
  have HA : Hid _ := hra
  have HB : Hid _ := hrb
  have HNA : Hid _ := hna
  have HNB : Hid _ := hnb
  clear hra hrb hna hnb
  have hlenA : ((sa.take la).map Value.string).length = la * 1 := by simp; omega
  have hlenB : ((sb.take lb).map Value.string).length = lb * 1 := by simp; omega
  have HLA : Hid _ := hlenA
  have HLB : Hid _ := hlenB
  clear hlenA hlenB
  go_enter Try.func7, Try.ntmps7
  go_wp2_with fail
  refine h15.mono ?_
  rintro e w' ⟨r, rfl, hyes, rfl⟩
  clear h15
  cases r
  · clear hyes
    go_wp2
    go_ret
    exact ⟨rfl, Below.refl _ _⟩
  · have hsum := hyes rfl
    clear hyes
    go_wp2_with fail
    go_loop [5, 6] (fun z i => ∃ k : Nat, k ≤ la ∧ i = .int .i64 k ∧ z = .int .i64 (16 * (k : Int) + (sumTo sa k : Int))) (fun _ i => la - (intOf i).toNat)
    case atStart => exact ⟨0, Nat.zero_le _, rfl, by simp [sumTo]⟩
    case round =>
      obtain ⟨k, hk, rfl, rfl⟩ := hrel
      by_cases hlt : k < la
      · obtain ⟨b, off, rfl, hbl, hc⟩ := HA.out k hlt
        have hle := sumTo_le sa (show k + 1 ≤ la by omega)
        rw [sumTo_succ] at hle
        have HS : Hid _ := sumTo_succ sa k
        generalize sa.getD k ByteArray.empty = s at *
        by_cases h1 : 16 * (k : Int) + (sumTo sa k : Int) + (16 + (s.size : Int)) ≤ 1048576
        · go_wp2
          go_round
          case rel => exact ⟨k + 1, by omega, by go_num, by rw [HS.out]; go_num⟩
          case measure => simp [intOf]; omega
        · go_wp2
          go_ret
          exact ⟨rfl, Below.refl _ _⟩
      · obtain rfl : k = la := by omega
        go_wp2_with fail
        go_loop [5, 7] (fun z i => ∃ j : Nat, j ≤ lb ∧ i = .int .i64 j ∧ z = .int .i64 (16 * (k : Int) + (sumTo sa k : Int) + (16 * (j : Int) + (sumTo sb j : Int)))) (fun _ i => lb - (intOf i).toNat)
        case atStart => exact ⟨0, Nat.zero_le _, rfl, by simp [sumTo]⟩
        case round =>
          obtain ⟨j, hj, rfl, rfl⟩ := hrel
          by_cases hlt2 : j < lb
          · obtain ⟨b, off, rfl, hbl, hc⟩ := HB.out j hlt2
            have hle := sumTo_le sb (show j + 1 ≤ lb by omega)
            rw [sumTo_succ] at hle
            have HS : Hid _ := sumTo_succ sb j
            generalize sb.getD j ByteArray.empty = s at *
            by_cases h1 : 16 * (k : Int) + (sumTo sa k : Int) + (16 * (j : Int) + (sumTo sb j : Int)) + (16 + (s.size : Int)) ≤ 1048576
            · go_wp2
              go_round
              case rel => exact ⟨j + 1, by omega, by go_num, by rw [HS.out]; go_num⟩
              case measure => simp [intOf]; omega
            · go_wp2
              go_ret
              exact ⟨rfl, Below.refl _ _⟩
          · obtain rfl : j = lb := by omega
            have tok1 : True := trivial
            go_wp2_with (first
              | (at_make; refine wpList_make_own _ rfl _ _ 49 rfl w'.heap.size 9 i0 (.string ByteArray.empty) 1 Try.underlying49 hi hz0 hz1 .i64 .i64 _ (k + j) rfl rfl (by omega) (by rw [hz2]; omega) (by unfold maxLen; omega) (Nat.le_refl _) ?_; intro w1 hJ0 hg1; have B1 : Hid (Below w'.heap.size w' w1) := (Below.refl _ w').grown hg1 (Nat.le_refl _) (fun _ h => by cases h); have RA1 : Hid _ := Reads.below HA.out B1.out)
              | (at_builtin; have _t := tok1; refine wpList_append_fits_any _ rfl (.tmp 58) (.tmp 59) 49 rfl w'.heap.size 9 i0 1 Try.underlying49 hi hz1 w'.heap.size 0 (k + j) [] rfl hJ0 ao k ca _ rfl HLA.out HNA.out (Reads.cells RA1.out) (texts_one _) (by omega) ?_; intro w2 hJ1 hg2; clear tok1; simp only [Nat.zero_add, List.nil_append] at hJ1; have B2 : Hid (Below w'.heap.size w' w2) := B1.out.grown hg2 B1.out.size (fun _ h => by cases h; exact Nat.le_refl _); have RB2 : Hid _ := Reads.below HB.out B2.out)
              | (at_builtin; refine wpList_append_fits_any _ rfl (.tmp 61) (.tmp 62) 49 rfl w'.heap.size 9 i0 1 Try.underlying49 hi hz1 w'.heap.size k (k + j) _ rfl hJ1 bo j cb _ rfl HLB.out HNB.out (Reads.cells RB2.out) (texts_one _) (by omega) ?_; intro w3 hJ2 hg3; have B3 : Hid (Below w'.heap.size w' w3) := B2.out.grown hg3 B2.out.size (fun _ h => by cases h; exact Nat.le_refl _)))
            rw [← List.map_append] at hJ2
            have RJ : Hid _ := reads_own hJ2
            have RA3 : Hid _ := Reads.below HA.out B3.out
            have RB3 : Hid _ := Reads.below HB.out B3.out
            clear hJ0 hJ1 hJ2 hg1 hg2 hg3 B1 B2 RA1 RB2 HA HB HNA HNB HLA HLB hi hz0 hz1 hz2
            refine (ends14 ao k ca sa w3 RA3.out (by omega) (by omega)).mono ?_
            rintro e w4 ⟨o1, c1, rfl, hown, hb⟩
            have B4 : Hid (Below w'.heap.size w' w4) := B3.out.trans (hb.mono B3.out.size)
            have RA4 : Hid _ := Reads.below RA3.out hb
            have RB4 : Hid _ := Reads.below RB3.out hb
            have RJ4 : Hid _ := Reads.below RJ.out hb
            have NA4 : Hid _ := nums_own hown
            clear hown hb RA3 RB3 RJ B3
            go_wp2_with fail
            refine (ends14 bo j cb sb w4 RB4.out (by omega) (by omega)).mono ?_
            rintro e w5 ⟨o2, c2, rfl, hown, hb⟩
            have B5 : Hid (Below w'.heap.size w' w5) := B4.out.trans (hb.mono B4.out.size)
            have RA5 : Hid _ := Reads.below RA4.out hb
            have RB5 : Hid _ := Reads.below RB4.out hb
            have RJ5 : Hid _ := Reads.below RJ4.out hb
            have NA5 : Hid _ := Nums.below NA4.out hb
            have NB5 : Hid _ := nums_own hown
            clear hown hb RA4 RB4 RJ4 B4 NA4
            go_wp2_with fail
            have JL := joint_left sa sb k j hsa
            have JR := joint_right sa sb k j hsa
            have hJs := JR j (Nat.le_refl _)
            refine (ends14 _ (k + j) (k + j) (sa.take k ++ sb.take j) w5 RJ5.out (by omega) (by omega)).mono ?_
            rintro e w6 ⟨o3, c3, rfl, hown, hb⟩
            have B6 : Hid (Below w'.heap.size w' w6) := B5.out.trans (hb.mono B5.out.size)
            have RA6 : Hid _ := Reads.below RA5.out hb
            have RB6 : Hid _ := Reads.below RB5.out hb
            have NA6 : Hid _ := Nums.below NA5.out hb
            have NB6 : Hid _ := Nums.below NB5.out hb
            have NJ6 : Hid _ := nums_own hown
            have HJL : Hid _ := JL
            have HJR : Hid _ := JR
            clear hown hb RA5 RB5 RJ5 B5 NA5 NB5 JL JR hJs hlt hlt2 hsa hsb hk hj
            have hne1 : ((k : Int) != (k : Int)) = false := by simp
            have hne2 : ((j : Int) != (j : Int)) = false := by simp
            have hne3 : ((k : Int) + (j : Int) != (k : Int) + (j : Int)) = false := by simp
            go_wp2_with fail
            clear hne1 hne2 hne3
            go_loopw [12, 13] (fun z i wr => ∃ x n : Nat, x ≤ k ∧ i = .int .i64 x ∧ z = .int .i64 (sumTo sa x : Int) ∧ wr = w6.drewN n) (fun _ i _ => k - (intOf i).toNat)
            case atStart => exact ⟨0, 0, Nat.zero_le _, rfl, by simp [sumTo], rfl⟩
            case round =>
              obtain ⟨x, n, hx, rfl, rfl, rfl⟩ := hrel
              by_cases hlt : x < k
              · obtain ⟨b, off, rfl, hbl, hc⟩ := RA6.out x hlt
                obtain ⟨g1, rfl, _, hc1⟩ := NA6.out x hlt
                obtain ⟨g3, rfl, _, hc3⟩ := NJ6.out x (by omega)
                simp only [HJL.out (x + 1) (by omega)] at hc3
                have hle := sumTo_le sa (show x + 1 ≤ k by omega)
                rw [sumTo_succ] at hle
                have HS : Hid _ := sumTo_succ sa x
                generalize sa.getD x ByteArray.empty = s at *
                generalize hy : (sumTo sa (x + 1) : Int) = y at *
                have HY : Hid _ := hy
                clear hy
                have hne : (y != y) = false := by simp
                have hi1 : (x : Int) < (k : Int) := by omega
                have hi2 : (x : Int) < (k : Int) + (j : Int) := by omega
                go_wp2
                go_quiet (fail)
                go_wp2
                go_roundw
                case rel => exact ⟨x + 1, _, by omega, by go_num, by rw [HS.out]; go_num, rfl⟩
                case measure => simp [intOf]; omega
              · obtain rfl : x = k := by omega
                go_wp2_with fail
                go_loopw [14, 15] (fun z i wr => ∃ y m : Nat, y ≤ j ∧ i = .int .i64 y ∧ z = .int .i64 (sumTo sb y : Int) ∧ wr = w6.drewN m) (fun _ i _ => j - (intOf i).toNat)
                case atStart => exact ⟨0, n, Nat.zero_le _, rfl, by simp [sumTo], rfl⟩
                case round =>
                  obtain ⟨y, m, hy, rfl, rfl, rfl⟩ := hrel
                  by_cases hlt2 : y < j
                  · obtain ⟨b, off, rfl, hbl, hc⟩ := RB6.out y hlt2
                    obtain ⟨g2, rfl, _, hc2⟩ := NB6.out y hlt2
                    obtain ⟨g3, rfl, _, hc3⟩ := NJ6.out (x + y) (by omega)
                    have hjr := HJR.out (y + 1) (by omega)
                    rw [← Nat.add_assoc] at hjr
                    simp only [hjr, Int.natCast_add] at hc3
                    have hle := sumTo_le sb (show y + 1 ≤ j by omega)
                    have hle2 := hle
                    rw [sumTo_succ] at hle2
                    generalize hs : sb.getD y ByteArray.empty = s at *
                    have HG : Hid (sb.getD y ByteArray.empty = s) := hs
                    clear hjr hs
                    generalize sumTo sb (y + 1) = u at *
                    have hne : ((sumTo sa x : Int) + (u : Int) != (u : Int) + (sumTo sa x : Int)) = false := by simp; omega
                    have hi1 : (y : Int) < (j : Int) := by omega
                    have hi2 : (x : Int) + (y : Int) < (x : Int) + (j : Int) := by omega
                    go_wp2
                    go_quiet (fail)
                    go_wp2
                    go_roundw
                    case rel => exact ⟨y + 1, _, by omega, by go_num, by rw [sumTo_succ, HG.out]; go_num, rfl⟩
                    case measure => simp [intOf]; omega
                  · obtain rfl : y = j := by omega
                    by_cases h0 : y = 0
                    · have hq : ((y : Int) == 0) = true := by simp; omega
                      go_wp2
                      go_ret
                      exact ⟨rfl, below_drewN B6.out⟩
                    · have hq : ((y : Int) == 0) = false := by simp; omega
                      obtain ⟨g2, rfl, _, hc2⟩ := NB6.out (y - 1) (by omega)
                      rw [show y - 1 + 1 = y by omega] at hc2
                      have hqq : ((sumTo sb y : Int) == (sumTo sb y : Int)) = true := by simp
                      have hi1 : 0 ≤ (y : Int) - 1 := by omega
                      have hi2 : (y : Int) - 1 < (y : Int) := by omega
                      go_wp2
                      go_ret
                      exact ⟨rfl, below_drewN B6.out⟩
end Go.Proofs.Qxb6616476a
