/-
  THE FIRST LAW's WALK.
-/
import Derived.Test.Qxb6615214aWalks
namespace Go.Proofs.Qxb6615214a
open Go.Shelf Go.Maps Go.RowKit

set_option maxRecDepth 100000 in
set_option maxHeartbeats 4000000 in
/-- Some length is beyond the law's own bounds: it answers true at once. -/
theorem law3_early (a x c m t a' x' c' m' t' : ByteArray) (p p' : Option Nat) (n n' : Nat) (w : World)
    (ln : ∀ ty, (Builtin.len_ #[22] ty #[.map p]).run Try.prog w = .ok (.int .i64 n) w) (ln' : ∀ ty, (Builtin.len_ #[22] ty #[.map p']).run Try.prog w = .ok (.int .i64 n') w)
    (big : 65536 < a.size ∨ 65536 < x.size ∨ 65536 < c.size ∨ 65536 < m.size ∨ 65536 < t.size ∨ 65536 < a'.size ∨ 65536 < x'.size ∨ 65536 < c'.size ∨ 65536 < m'.size ∨ 65536 < t'.size ∨ 4096 < n ∨ 4096 < n') :
    Calls Try.prog 3 #[.string a, .string x, .string c, .string m, .string t, .map p, .string a', .string x', .string c', .string m', .string t', .map p'] w fun e w' => e = .returned (.bool true) ∧ w.grownBy w' none := by
  by_cases q_a : 65536 < a.size
  · have k_a : decide ((65536 : Int) < (a.size : Int)) = true := decide_eq_true (by omega)
    go_enter Try.func3, Try.ntmps3
    go_wp2
    go_ret
    exact ⟨rfl, World.grownBy.refl _ _⟩
  have k_a : decide ((65536 : Int) < (a.size : Int)) = false := decide_eq_false (by omega)
  by_cases q_x : 65536 < x.size
  · have k_x : decide ((65536 : Int) < (x.size : Int)) = true := decide_eq_true (by omega)
    go_enter Try.func3, Try.ntmps3
    go_wp2
    go_ret
    exact ⟨rfl, World.grownBy.refl _ _⟩
  have k_x : decide ((65536 : Int) < (x.size : Int)) = false := decide_eq_false (by omega)
  by_cases q_c : 65536 < c.size
  · have k_c : decide ((65536 : Int) < (c.size : Int)) = true := decide_eq_true (by omega)
    go_enter Try.func3, Try.ntmps3
    go_wp2
    go_ret
    exact ⟨rfl, World.grownBy.refl _ _⟩
  have k_c : decide ((65536 : Int) < (c.size : Int)) = false := decide_eq_false (by omega)
  by_cases q_m : 65536 < m.size
  · have k_m : decide ((65536 : Int) < (m.size : Int)) = true := decide_eq_true (by omega)
    go_enter Try.func3, Try.ntmps3
    go_wp2
    go_ret
    exact ⟨rfl, World.grownBy.refl _ _⟩
  have k_m : decide ((65536 : Int) < (m.size : Int)) = false := decide_eq_false (by omega)
  by_cases q_t : 65536 < t.size
  · have k_t : decide ((65536 : Int) < (t.size : Int)) = true := decide_eq_true (by omega)
    go_enter Try.func3, Try.ntmps3
    go_wp2
    go_ret
    exact ⟨rfl, World.grownBy.refl _ _⟩
  have k_t : decide ((65536 : Int) < (t.size : Int)) = false := decide_eq_false (by omega)
  by_cases q_a1 : 65536 < a'.size
  · have k_a1 : decide ((65536 : Int) < (a'.size : Int)) = true := decide_eq_true (by omega)
    go_enter Try.func3, Try.ntmps3
    go_wp2
    go_ret
    exact ⟨rfl, World.grownBy.refl _ _⟩
  have k_a1 : decide ((65536 : Int) < (a'.size : Int)) = false := decide_eq_false (by omega)
  by_cases q_x1 : 65536 < x'.size
  · have k_x1 : decide ((65536 : Int) < (x'.size : Int)) = true := decide_eq_true (by omega)
    go_enter Try.func3, Try.ntmps3
    go_wp2
    go_ret
    exact ⟨rfl, World.grownBy.refl _ _⟩
  have k_x1 : decide ((65536 : Int) < (x'.size : Int)) = false := decide_eq_false (by omega)
  by_cases q_c1 : 65536 < c'.size
  · have k_c1 : decide ((65536 : Int) < (c'.size : Int)) = true := decide_eq_true (by omega)
    go_enter Try.func3, Try.ntmps3
    go_wp2
    go_ret
    exact ⟨rfl, World.grownBy.refl _ _⟩
  have k_c1 : decide ((65536 : Int) < (c'.size : Int)) = false := decide_eq_false (by omega)
  by_cases q_m1 : 65536 < m'.size
  · have k_m1 : decide ((65536 : Int) < (m'.size : Int)) = true := decide_eq_true (by omega)
    go_enter Try.func3, Try.ntmps3
    go_wp2
    go_ret
    exact ⟨rfl, World.grownBy.refl _ _⟩
  have k_m1 : decide ((65536 : Int) < (m'.size : Int)) = false := decide_eq_false (by omega)
  by_cases q_t1 : 65536 < t'.size
  · have k_t1 : decide ((65536 : Int) < (t'.size : Int)) = true := decide_eq_true (by omega)
    go_enter Try.func3, Try.ntmps3
    go_wp2
    go_ret
    exact ⟨rfl, World.grownBy.refl _ _⟩
  have k_t1 : decide ((65536 : Int) < (t'.size : Int)) = false := decide_eq_false (by omega)
  by_cases q_n : 4096 < n
  · have k_n : decide ((4096 : Int) < (n : Int)) = true := decide_eq_true (by omega)
    go_enter Try.func3, Try.ntmps3
    go_wp2
    go_ret
    exact ⟨rfl, World.grownBy.refl _ _⟩
  have k_n : decide ((4096 : Int) < (n : Int)) = false := decide_eq_false (by omega)
  by_cases q_n1 : 4096 < n'
  · have k_n1 : decide ((4096 : Int) < (n' : Int)) = true := decide_eq_true (by omega)
    go_enter Try.func3, Try.ntmps3
    go_wp2
    go_ret
    exact ⟨rfl, World.grownBy.refl _ _⟩
  have k_n1 : decide ((4096 : Int) < (n' : Int)) = false := decide_eq_false (by omega)
  exfalso; omega

set_option maxRecDepth 100000 in
set_option maxHeartbeats 8000000 in
/-- Inside the bounds: six calls of ZZDescribes, each by its contract. r: what d says of w; s: do the four texts agree? -/
theorem law3_main (a x c m t a' x' c' m' t' : ByteArray) (p p' : Option Nat) (n n' : Nat) (w : World)
    (ln : ∀ ty, (Builtin.len_ #[22] ty #[.map p]).run Try.prog w = .ok (.int .i64 n) w) (ln' : ∀ ty, (Builtin.len_ #[22] ty #[.map p']).run Try.prog w = .ok (.int .i64 n') w)
    (k_a : decide ((65536 : Int) < (a.size : Int)) = false)    (k_x : decide ((65536 : Int) < (x.size : Int)) = false)    (k_c : decide ((65536 : Int) < (c.size : Int)) = false)    (k_m : decide ((65536 : Int) < (m.size : Int)) = false)    (k_t : decide ((65536 : Int) < (t.size : Int)) = false)    (k_a1 : decide ((65536 : Int) < (a'.size : Int)) = false)    (k_x1 : decide ((65536 : Int) < (x'.size : Int)) = false)    (k_c1 : decide ((65536 : Int) < (c'.size : Int)) = false)    (k_m1 : decide ((65536 : Int) < (m'.size : Int)) = false)    (k_t1 : decide ((65536 : Int) < (t'.size : Int)) = false)
    (k_n : decide ((4096 : Int) < (n : Int)) = false) (k_n1 : decide ((4096 : Int) < (n' : Int)) = false)
    (r s : Bool)
    (z1 : ∀ W, w.grownBy W none → Calls Try.prog 5 #[.string a, .string x, .string c, .string m, .string t, .map p, .string a', .string x', .string c', .string m', .string t', .map p'] W fun e w' => e = .returned (.bool r) ∧ w.grownBy w' none)
    (z2 : ∀ W, w.grownBy W none → Calls Try.prog 5 #[.string a, .string x, .string c, .string m, .string t, .map p, .string a, .string x, .string c, .string m, .string t, .map p] W fun e w' => e = .returned (.bool true) ∧ w.grownBy w' none)
    (z3 : ∀ W, w.grownBy W none → Calls Try.prog 5 #[.string a', .string x', .string c', .string m', .string t', .map p', .string a', .string x', .string c', .string m', .string t', .map p'] W fun e w' => e = .returned (.bool true) ∧ w.grownBy w' none)
    (z4 : ∀ W, w.grownBy W none → Calls Try.prog 5 #[.string a', .string x', .string c', .string m', .string t', .map p', .string a, .string x, .string c, .string m, .string t, .map p] W fun e w' => e = .returned (.bool r) ∧ w.grownBy w' none)
    (z5 : ∀ W, w.grownBy W none → Calls Try.prog 5 #[.string a, .string x', .string c, .string m, .string t, .map p, .string a', .string x, .string c', .string m', .string t', .map p'] W fun e w' => e = .returned (.bool r) ∧ w.grownBy w' none)
    (z6 : ∀ W, w.grownBy W none → Calls Try.prog 5 #[.string a, .string x, .string c, .string m, .string t, .map p, .string a', .string x', .string c', .string m', .string t', .map p] W fun e w' => e = .returned (.bool s) ∧ w.grownBy w' none)
    (hrs : ((a.toList == a'.toList) = false ∧ r = false ∧ s = false) ∨ ((a.toList == a'.toList) = true ∧ (c.toList == c'.toList) = false ∧ r = false ∧ s = false)
      ∨ ((a.toList == a'.toList) = true ∧ (c.toList == c'.toList) = true ∧ (m.toList == m'.toList) = false ∧ r = false ∧ s = false)
      ∨ ((a.toList == a'.toList) = true ∧ (c.toList == c'.toList) = true ∧ (m.toList == m'.toList) = true ∧ (t.toList == t'.toList) = false ∧ r = false ∧ s = false)
      ∨ ((a.toList == a'.toList) = true ∧ (c.toList == c'.toList) = true ∧ (m.toList == m'.toList) = true ∧ (t.toList == t'.toList) = true ∧ r = false ∧ s = true)
      ∨ ((a.toList == a'.toList) = true ∧ (c.toList == c'.toList) = true ∧ (m.toList == m'.toList) = true ∧ (t.toList == t'.toList) = true ∧ r = true ∧ s = true)) :
    Calls Try.prog 3 #[.string a, .string x, .string c, .string m, .string t, .map p, .string a', .string x', .string c', .string m', .string t', .map p'] w fun e w' => e = .returned (.bool true) ∧ w.grownBy w' none := by
  rcases hrs with ⟨e0, rfl, rfl⟩ | ⟨e0, e2, rfl, rfl⟩ | ⟨e0, e2, e3, rfl, rfl⟩ | ⟨e0, e2, e3, e4, rfl, rfl⟩ | ⟨e0, e2, e3, e4, rfl, rfl⟩ | ⟨e0, e2, e3, e4, rfl, rfl⟩
  all_goals
    go_enter Try.func3, Try.ntmps3
    go_wp2_with fail
    refine (z1 _ (World.grownBy.refl _ _)).mono ?_
    rintro e w1 ⟨rfl, hg1⟩
    clear z1
    go_wp2_with fail
    refine (z2 _ hg1).mono ?_
    rintro e w2 ⟨rfl, hg2⟩
    clear z2
    go_wp2_with fail
    refine (z3 _ hg2).mono ?_
    rintro e w3 ⟨rfl, hg3⟩
    clear z3
    go_wp2_with fail
    refine (z4 _ hg3).mono ?_
    rintro e w4 ⟨rfl, hg4⟩
    clear z4
    go_wp2_with fail
    refine (z5 _ hg4).mono ?_
    rintro e w5 ⟨rfl, hg5⟩
    clear z5
    go_wp2_with fail
    refine (z6 _ hg5).mono ?_
    rintro e w6 ⟨rfl, hg6⟩
    clear z6
    go_wp2_with fail
    go_ret
    exact ⟨rfl, hg6⟩
end Go.Proofs.Qxb6615214a
