/-
  THE SECOND LAW's WALK.
-/
import Derived.Test.Qxb6615214aWalks
import Derived.Maps.OwnSet
import Derived.StringKeys
namespace Go.Proofs.Qxb6615214a
open Go.Shelf Go.Maps Go.RowKit

set_option maxRecDepth 100000 in
set_option maxHeartbeats 4000000 in
/-- Some length is beyond the law's own bounds: it answers true at once. -/
theorem law4_early (a x c m t v k u u' : ByteArray) (p : Option Nat) (n : Nat) (w : World)
    (ln : ∀ ty, (Builtin.len_ #[22] ty #[.map p]).run Try.prog w = .ok (.int .i64 n) w)
    (big : 65536 < a.size ∨ 65536 < x.size ∨ 65536 < c.size ∨ 65536 < m.size ∨ 65536 < t.size ∨ 65536 < v.size ∨ 65536 < k.size ∨ 65536 < u.size ∨ 65536 < u'.size ∨ 4096 < n) :
    Calls Try.prog 4 #[.string a, .string x, .string c, .string m, .string t, .map p, .string v, .string k, .string u, .string u'] w fun e w' => e = .returned (.bool true) ∧ w.grownBy w' none := by
  by_cases q_a : 65536 < a.size
  · have k_a : decide ((65536 : Int) < (a.size : Int)) = true := decide_eq_true (by omega)
    go_enter Try.func4, Try.ntmps4
    go_wp2
    go_ret
    exact ⟨rfl, World.grownBy.refl _ _⟩
  have k_a : decide ((65536 : Int) < (a.size : Int)) = false := decide_eq_false (by omega)
  by_cases q_x : 65536 < x.size
  · have k_x : decide ((65536 : Int) < (x.size : Int)) = true := decide_eq_true (by omega)
    go_enter Try.func4, Try.ntmps4
    go_wp2
    go_ret
    exact ⟨rfl, World.grownBy.refl _ _⟩
  have k_x : decide ((65536 : Int) < (x.size : Int)) = false := decide_eq_false (by omega)
  by_cases q_c : 65536 < c.size
  · have k_c : decide ((65536 : Int) < (c.size : Int)) = true := decide_eq_true (by omega)
    go_enter Try.func4, Try.ntmps4
    go_wp2
    go_ret
    exact ⟨rfl, World.grownBy.refl _ _⟩
  have k_c : decide ((65536 : Int) < (c.size : Int)) = false := decide_eq_false (by omega)
  by_cases q_m : 65536 < m.size
  · have k_m : decide ((65536 : Int) < (m.size : Int)) = true := decide_eq_true (by omega)
    go_enter Try.func4, Try.ntmps4
    go_wp2
    go_ret
    exact ⟨rfl, World.grownBy.refl _ _⟩
  have k_m : decide ((65536 : Int) < (m.size : Int)) = false := decide_eq_false (by omega)
  by_cases q_t : 65536 < t.size
  · have k_t : decide ((65536 : Int) < (t.size : Int)) = true := decide_eq_true (by omega)
    go_enter Try.func4, Try.ntmps4
    go_wp2
    go_ret
    exact ⟨rfl, World.grownBy.refl _ _⟩
  have k_t : decide ((65536 : Int) < (t.size : Int)) = false := decide_eq_false (by omega)
  by_cases q_v : 65536 < v.size
  · have k_v : decide ((65536 : Int) < (v.size : Int)) = true := decide_eq_true (by omega)
    go_enter Try.func4, Try.ntmps4
    go_wp2
    go_ret
    exact ⟨rfl, World.grownBy.refl _ _⟩
  have k_v : decide ((65536 : Int) < (v.size : Int)) = false := decide_eq_false (by omega)
  by_cases q_k : 65536 < k.size
  · have k_k : decide ((65536 : Int) < (k.size : Int)) = true := decide_eq_true (by omega)
    go_enter Try.func4, Try.ntmps4
    go_wp2
    go_ret
    exact ⟨rfl, World.grownBy.refl _ _⟩
  have k_k : decide ((65536 : Int) < (k.size : Int)) = false := decide_eq_false (by omega)
  by_cases q_u : 65536 < u.size
  · have k_u : decide ((65536 : Int) < (u.size : Int)) = true := decide_eq_true (by omega)
    go_enter Try.func4, Try.ntmps4
    go_wp2
    go_ret
    exact ⟨rfl, World.grownBy.refl _ _⟩
  have k_u : decide ((65536 : Int) < (u.size : Int)) = false := decide_eq_false (by omega)
  by_cases q_u1 : 65536 < u'.size
  · have k_u1 : decide ((65536 : Int) < (u'.size : Int)) = true := decide_eq_true (by omega)
    go_enter Try.func4, Try.ntmps4
    go_wp2
    go_ret
    exact ⟨rfl, World.grownBy.refl _ _⟩
  have k_u1 : decide ((65536 : Int) < (u'.size : Int)) = false := decide_eq_false (by omega)
  by_cases q_n : 4096 < n
  · have k_n : decide ((4096 : Int) < (n : Int)) = true := decide_eq_true (by omega)
    go_enter Try.func4, Try.ntmps4
    go_wp2
    go_ret
    exact ⟨rfl, World.grownBy.refl _ _⟩
  exfalso; omega

/-- 'make(map[string]string, 1)'. -/
theorem make_one (w : World) : (Instr.makeMap 22 (some (.int .i64 1))).run Try.prog w = .ok (.map (some w.heap.size)) (w.alloc (.map #[] 0)) := by kernel_rfl

set_option maxRecDepth 100000 in
set_option maxHeartbeats 8000000 in
/-- Inside the bounds: eight calls of ZZDescribes, each by its contract. -/
theorem law4_main (a x c m t v k u u' : ByteArray) (p : Option Nat) (n : Nat) (w : World)
    (ln : ∀ ty, (Builtin.len_ #[22] ty #[.map p]).run Try.prog w = .ok (.int .i64 n) w)
    (k_a : decide ((65536 : Int) < (a.size : Int)) = false)    (k_x : decide ((65536 : Int) < (x.size : Int)) = false)    (k_c : decide ((65536 : Int) < (c.size : Int)) = false)    (k_m : decide ((65536 : Int) < (m.size : Int)) = false)    (k_t : decide ((65536 : Int) < (t.size : Int)) = false)    (k_v : decide ((65536 : Int) < (v.size : Int)) = false)    (k_k : decide ((65536 : Int) < (k.size : Int)) = false)    (k_u : decide ((65536 : Int) < (u.size : Int)) = false)    (k_u1 : decide ((65536 : Int) < (u'.size : Int)) = false)
    (k_n : decide ((4096 : Int) < (n : Int)) = false) (hk : k.size ≤ maxLen) (hu : u.size ≤ maxLen) (hu' : u'.size ≤ maxLen)
    (z1 : ∀ W, w.grownBy W none → Calls Try.prog 5 #[.string v, .string x, .string c, .string m, .string t, .map p, .string a, .string x, .string c, .string m, .string t, .map p] W fun e w' => e = .returned (.bool (v.toList == a.toList)) ∧ w.grownBy w' none)
    (z2 : ∀ W, w.grownBy W none → Calls Try.prog 5 #[.string a, .string x, .string v, .string m, .string t, .map p, .string a, .string x, .string c, .string m, .string t, .map p] W fun e w' => e = .returned (.bool (v.toList == c.toList)) ∧ w.grownBy w' none)
    (z3 : ∀ W, w.grownBy W none → Calls Try.prog 5 #[.string a, .string x, .string c, .string v, .string t, .map p, .string a, .string x, .string c, .string m, .string t, .map p] W fun e w' => e = .returned (.bool (v.toList == m.toList)) ∧ w.grownBy w' none)
    (z4 : ∀ W, w.grownBy W none → Calls Try.prog 5 #[.string a, .string x, .string c, .string m, .string v, .map p, .string a, .string x, .string c, .string m, .string t, .map p] W fun e w' => e = .returned (.bool (v.toList == t.toList)) ∧ w.grownBy w' none)
    (z5 : ∀ W, w.grownBy W none → Calls Try.prog 5 #[.string a, .string v, .string c, .string m, .string t, .map p, .string a, .string x, .string c, .string m, .string t, .map p] W fun e w' => e = .returned (.bool true) ∧ w.grownBy w' none)
    (z6 : ∀ W b b' D D', Src (H := Unit) W (some b) D → Src (H := Unit) W (some b') D' → Calls Try.prog 5 #[.string a, .string x, .string c, .string m, .string t, .map (some b), .string a, .string x, .string c, .string m, .string t, .map (some b')] W fun e w' => e = .returned (.bool (Lib.equalFuncD sameS D D')) ∧ W.grownBy w' none)
    (z7 : ∀ W b D, Src (H := Unit) W (some b) D → Calls Try.prog 5 #[.string a, .string x, .string c, .string m, .string t, .map none, .string a, .string x, .string c, .string m, .string t, .map (some b)] W fun e w' => e = .returned (.bool (Lib.equalFuncD sameS .nil D)) ∧ W.grownBy w' none)
    (z8 : ∀ W b D, Src (H := Unit) W (some b) D → Calls Try.prog 5 #[.string a, .string x, .string c, .string m, .string t, .map (some b), .string a, .string x, .string c, .string m, .string t, .map none] W fun e w' => e = .returned (.bool (Lib.equalFuncD sameS D .nil)) ∧ W.grownBy w' none) :
    Calls Try.prog 4 #[.string a, .string x, .string c, .string m, .string t, .map p, .string v, .string k, .string u, .string u'] w fun e w' => e = .returned (.bool true) ∧ w.grownBy w' none := by
  have hmm := @run_makeMap Try.prog
  have hm1 := make_one
  have hkey := Go.WideMaps.keyOf_string_mk Try.underlying9 hk
  have hval := plainElem_string (H := Unit) Try.underlying9 hu
  have hval' := plainElem_string (H := Unit) Try.underlying9 hu'
  have tok1 : True := trivial
  go_enter Try.func4, Try.ntmps4
  go_wp2_with fail
  refine (z1 _ (World.grownBy.refl _ _)).mono ?_
  rintro e w1 ⟨rfl, hg1⟩
  clear z1
  go_wp2_with fail
  refine (z2 _ hg1).mono ?_
  rintro e w2 ⟨rfl, hg2⟩
  clear z2
  go_wp2_with fail
  refine (z3 _ hg2).mono ?_
  rintro e w3 ⟨rfl, hg3⟩
  clear z3
  go_wp2_with fail
  refine (z4 _ hg3).mono ?_
  rintro e w4 ⟨rfl, hg4⟩
  clear z4
  go_wp2_with fail
  refine (z5 _ hg4).mono ?_
  rintro e w5 ⟨rfl, hg5⟩
  clear z5
  clear ln hg1 hg2 hg3 hg4
  go_wp2_with (first
    | (at_mapUpdate; have _t := tok1; refine wpList_mapUpdate_own _ rfl _ _ _ 22 rfl 9 9 law9 Try.underlying22 (plainElem (H := Unit) Try.prog 9) w5.heap.size 0 (.map []) rfl (World.ownsMap_made w5 Try.prog 9 _) (by unfold maxLen; omega) _ _ _ rfl rfl hkey _ [] hval ?_; intro w6 hown6 hg6; clear tok1)
    | (at_mapUpdate; refine wpList_mapUpdate_own _ rfl _ _ _ 22 rfl 9 9 law9 Try.underlying22 (plainElem (H := Unit) Try.prog 9) w6.heap.size 0 (.map []) rfl (World.ownsMap_made w6 Try.prog 9 _) (by unfold maxLen; omega) _ _ _ rfl rfl hkey _ [] hval' ?_; intro w7 hown7 hg7))
  have lt6 := hown6.lt
  have o1 := (hown6.alloc (.map #[] 0)).kept hg7 (fun e => by have := Option.some.inj e; omega)
  have s1 : Src (H := Unit) w7 (some w5.heap.size) (.map [(.string k.data.toList, .lit (.string u.data.toList))]) := .inr ⟨_, _, rfl, o1⟩
  have s2 : Src (H := Unit) w7 (some w6.heap.size) (.map [(.string k.data.toList, .lit (.string u'.data.toList))]) := .inr ⟨_, _, rfl, hown7⟩
  have h6 : w.grownBy w6 none := (grown_trans hg5 (World.grownBy_alloc w5 _ none)).andThen hg6 (fun j hj => by cases hj; exact .inl hg5.size)
  have h7 : w.grownBy w7 none := (grown_trans h6 (World.grownBy_alloc w6 _ none)).andThen hg7 (fun j hj => by cases hj; exact .inl h6.size)
  have c6 := z6 w7 _ _ _ _ s1 s2
  rw [equal_one (k := .string k.data.toList) trivial, ← ByteArray.toList_eq, ← ByteArray.toList_eq] at c6
  clear z6 hown6 hown7 hg6 hg7 hg5 h6 o1 s2 lt6 hkey hval hval'
  refine c6.mono ?_
  rintro e w8 ⟨rfl, hg8⟩
  clear c6
  go_wp2_with fail
  have c7 := z7 (w8.alloc (.map #[] 0)) w8.heap.size (.map []) (.inr ⟨_, _, rfl, World.ownsMap_made w8 Try.prog 9 _⟩)
  rw [equal_nil_empty] at c7
  clear z7
  refine c7.mono ?_
  rintro e w9 ⟨rfl, hg9⟩
  clear c7
  go_wp2_with fail
  have h9 := grown_trans (World.grownBy_alloc w8 (.map #[] 0) none) hg9
  have c8 := z8 w9 _ _ ((s1.kept hg8).kept h9)
  rw [equal_one_nil] at c8
  clear z8
  refine c8.mono ?_
  rintro e w10 ⟨rfl, hg10⟩
  clear c8
  go_wp2_with fail
  go_ret
  exact ⟨rfl, grown_trans (grown_trans (grown_trans h7 hg8) h9) hg10⟩
end Go.Proofs.Qxb6615214a
