/-
  THE WALKS: 'describes' and 'ZZDescribes' compute 'same'.
-/
import Derived.Test.Qxb6615214aShelf
import Derived.Deep.QuietTactic
import Derived.BigQuiet
import Derived.WalkSpells
namespace Go.Proofs.Qxb6615214a
open Go.Shelf Go.Maps Go.RowKit

/-- A world that has come of w by growth alone. -/
structure Grw (w : World) where
  W : World
  h : w.grownBy W none

theorem grown_drew (w : World) : w.grownBy w.drew none := ⟨rfl, rfl, rfl, Nat.le_refl _, fun _ _ _ => rfl⟩

theorem grown_trans {w w1 w2 : World} (h : w.grownBy w1 none) (g : w1.grownBy w2 none) : w.grownBy w2 none :=
  ⟨g.os.trans h.os, g.tape.trans h.tape, g.output.trans h.output, Nat.le_trans h.size g.size, fun k hk _ => (g.block k (Nat.lt_of_lt_of_le hk h.size) (by simp)).trans (h.block k hk (by simp))⟩

/-- The lexical walk of a region that draws, at the class 'w, grown'. -/
theorem wp_region_grw {P : Program} {id : Nat} {Q : Exit → Act → World → Prop} {a : Act} {w : World} {l : List Oper} (hm : P.follows .mixedOrders = true) (hB : Region.lexB .any l.toArray = true)
    (h : wpQuiet P l.toArray (fun w' => ∃ p : Grw w, w' = p.W) (fun a' => ∀ w', (∃ p : Grw w, w' = p.W) → Q .normal a' w') l a) : (Code.region id l.toArray true).wp P Q a w :=
  wp_region_quiet (C := fun w' => ∃ p : Grw w, w' = p.W) hm hB ⟨⟨w.drew, grown_drew w⟩, rfl⟩ (by simpa using h)

theorem grw_call {P : Program} {f : FuncId} {args : Array Value} {w : World} {v : Value} {p : Grw w}
    (h : Calls P f args p.W fun e w' => e = .returned v ∧ p.W.grownBy w' none) : Calls P f args p.W fun e w'' => e = .returned v ∧ ∃ q : Grw w, w'' = q.W :=
  h.mono fun _ w' ⟨he, hg⟩ => ⟨he, ⟨w', grown_trans p.h hg⟩, rfl⟩

/-- What 'describes' answers. -/
def same {H : Type} (a c m t a' c' m' t' : ByteArray) (D D' : DataW H) : Bool :=
  (a.toList == a'.toList) && ((c.toList == c'.toList) && ((m.toList == m'.toList) && ((t.toList == t'.toList) && Lib.equalFuncD sameS D D')))

set_option maxHeartbeats 1000000 in
/-- All four texts agree: the answer is maps.Equal's. -/
theorem describes6_all {H : Type} (b b' : Nat) (a c m t a' c' m' t' : ByteArray) (p p' : Option Nat) (D D' : DataW H) (w : World) (h : Src w p D) (h' : Src w p' D')
    (c0 : w.cell? ⟨b, 0, none⟩ = some (.string a)) (c2 : w.cell? ⟨b, 2, none⟩ = some (.string c)) (c3 : w.cell? ⟨b, 3, none⟩ = some (.string m)) (c4 : w.cell? ⟨b, 4, none⟩ = some (.string t)) (c5 : w.cell? ⟨b, 5, none⟩ = some (.map p))
    (d0 : w.cell? ⟨b', 0, none⟩ = some (.string a')) (d2 : w.cell? ⟨b', 2, none⟩ = some (.string c')) (d3 : w.cell? ⟨b', 3, none⟩ = some (.string m')) (d4 : w.cell? ⟨b', 4, none⟩ = some (.string t')) (d5 : w.cell? ⟨b', 5, none⟩ = some (.map p'))
    (e0 : (a.toList == a'.toList) = true) (e2 : (c.toList == c'.toList) = true) (e3 : (m.toList == m'.toList) = true) (e4 : (t.toList == t'.toList) = true) :
    Calls Try.prog 6 #[.pointer (some ⟨b, 0, none⟩), .pointer (some ⟨b', 0, none⟩)] w fun e w' => e = .returned (.bool (Lib.equalFuncD sameS D D')) ∧ w.grownBy w' none := by
  have hc := fun (q : Grw w) => equal7 p p' D D' q.W (h.kept q.h) (h'.kept q.h)
  generalize Lib.equalFuncD sameS D D' = r at *
  have k0 : ∀ q : Grw w, q.W.cell? ⟨b, 0, none⟩ = some (.string a) := fun q => q.h.cell c0 (by simp)
  have k2 : ∀ q : Grw w, q.W.cell? ⟨b, 2, none⟩ = some (.string c) := fun q => q.h.cell c2 (by simp)
  have k3 : ∀ q : Grw w, q.W.cell? ⟨b, 3, none⟩ = some (.string m) := fun q => q.h.cell c3 (by simp)
  have k4 : ∀ q : Grw w, q.W.cell? ⟨b, 4, none⟩ = some (.string t) := fun q => q.h.cell c4 (by simp)
  have k5 : ∀ q : Grw w, q.W.cell? ⟨b, 5, none⟩ = some (.map p) := fun q => q.h.cell c5 (by simp)
  have l0 : ∀ q : Grw w, q.W.cell? ⟨b', 0, none⟩ = some (.string a') := fun q => q.h.cell d0 (by simp)
  have l2 : ∀ q : Grw w, q.W.cell? ⟨b', 2, none⟩ = some (.string c') := fun q => q.h.cell d2 (by simp)
  have l3 : ∀ q : Grw w, q.W.cell? ⟨b', 3, none⟩ = some (.string m') := fun q => q.h.cell d3 (by simp)
  have l4 : ∀ q : Grw w, q.W.cell? ⟨b', 4, none⟩ = some (.string t') := fun q => q.h.cell d4 (by simp)
  have l5 : ∀ q : Grw w, q.W.cell? ⟨b', 5, none⟩ = some (.map p') := fun q => q.h.cell d5 (by simp)
  clear c0 c2 c3 c4 c5 d0 d2 d3 d4 d5 h h'
  have ne : Nonempty (Grw w) := ⟨⟨w.drew, grown_drew w⟩⟩
  go_enter Try.func6, Try.ntmps6
  go_wp2
  refine wp_region_grw (by kernel_rfl) (by kernel_rfl) ?_
  repeat (go_big_quiet_step ((go_at_call 7; exact grw_call (hc _))))
  refine wpQuiet_nil ?_
  intro _ hw'
  obtain ⟨⟨W1, hg⟩, hw''⟩ := hw'
  subst hw''
  go_wp2
  go_ret
  exact ⟨rfl, hg⟩

theorem grown_drewN (w : World) (n : Nat) : w.grownBy (w.drewN n) none := ⟨rfl, rfl, rfl, Nat.le_refl _, fun _ _ _ => rfl⟩

set_option maxHeartbeats 2000000 in
/-- One of the four texts parts: no. -/
theorem describes6_no (b b' : Nat) (a c m t a' c' m' t' : ByteArray) (w : World)
    (c0 : w.cell? ⟨b, 0, none⟩ = some (.string a)) (c2 : w.cell? ⟨b, 2, none⟩ = some (.string c)) (c3 : w.cell? ⟨b, 3, none⟩ = some (.string m)) (c4 : w.cell? ⟨b, 4, none⟩ = some (.string t))
    (d0 : w.cell? ⟨b', 0, none⟩ = some (.string a')) (d2 : w.cell? ⟨b', 2, none⟩ = some (.string c')) (d3 : w.cell? ⟨b', 3, none⟩ = some (.string m')) (d4 : w.cell? ⟨b', 4, none⟩ = some (.string t'))
    (hno : ((a.toList == a'.toList) && ((c.toList == c'.toList) && ((m.toList == m'.toList) && (t.toList == t'.toList)))) = false) :
    Calls Try.prog 6 #[.pointer (some ⟨b, 0, none⟩), .pointer (some ⟨b', 0, none⟩)] w fun e w' => e = .returned (.bool false) ∧ w.grownBy w' none := by
  cases e0 : (a.toList == a'.toList)
  · clear hno
    go_enter Try.func6, Try.ntmps6
    go_wp2
    go_quiet (fail)
    go_wp2
    go_ret
    exact ⟨rfl, grown_drewN _ _⟩
  · cases e2 : (c.toList == c'.toList)
    · clear hno
      go_enter Try.func6, Try.ntmps6
      go_wp2
      go_quiet (fail)
      go_wp2
      go_ret
      exact ⟨rfl, grown_drewN _ _⟩
    · cases e3 : (m.toList == m'.toList)
      · clear hno
        go_enter Try.func6, Try.ntmps6
        go_wp2
        go_quiet (fail)
        go_wp2
        go_ret
        exact ⟨rfl, grown_drewN _ _⟩
      · have e4 : (t.toList == t'.toList) = false := by rw [e0, e2, e3] at hno; simpa using hno
        clear hno
        go_enter Try.func6, Try.ntmps6
        go_wp2
        go_quiet (fail)
        go_wp2
        go_ret
        exact ⟨rfl, grown_drewN _ _⟩

theorem describes6 {H : Type} (b b' : Nat) (a c m t a' c' m' t' : ByteArray) (p p' : Option Nat) (D D' : DataW H) (w : World) (h : Src w p D) (h' : Src w p' D')
    (c0 : w.cell? ⟨b, 0, none⟩ = some (.string a)) (c2 : w.cell? ⟨b, 2, none⟩ = some (.string c)) (c3 : w.cell? ⟨b, 3, none⟩ = some (.string m)) (c4 : w.cell? ⟨b, 4, none⟩ = some (.string t)) (c5 : w.cell? ⟨b, 5, none⟩ = some (.map p))
    (d0 : w.cell? ⟨b', 0, none⟩ = some (.string a')) (d2 : w.cell? ⟨b', 2, none⟩ = some (.string c')) (d3 : w.cell? ⟨b', 3, none⟩ = some (.string m')) (d4 : w.cell? ⟨b', 4, none⟩ = some (.string t')) (d5 : w.cell? ⟨b', 5, none⟩ = some (.map p')) :
    Calls Try.prog 6 #[.pointer (some ⟨b, 0, none⟩), .pointer (some ⟨b', 0, none⟩)] w fun e w' => e = .returned (.bool (same a c m t a' c' m' t' D D')) ∧ w.grownBy w' none := by
  cases hno : ((a.toList == a'.toList) && ((c.toList == c'.toList) && ((m.toList == m'.toList) && (t.toList == t'.toList))))
  · have e : same a c m t a' c' m' t' D D' = false := by
      have key : ∀ A B C T E : Bool, (A && (B && (C && T))) = false → (A && (B && (C && (T && E)))) = false := by decide
      exact key _ _ _ _ _ hno
    rw [e]
    exact describes6_no b b' a c m t a' c' m' t' w c0 c2 c3 c4 d0 d2 d3 d4 hno
  · simp only [Bool.and_eq_true] at hno
    obtain ⟨e0, e2, e3, e4⟩ := hno
    have e : same a c m t a' c' m' t' D D' = Lib.equalFuncD sameS D D' := by unfold same; rw [e0, e2, e3, e4]; rfl
    rw [e]
    exact describes6_all b b' a c m t a' c' m' t' p p' D D' w h h' c0 c2 c3 c4 c5 d0 d2 d3 d4 d5 e0 e2 e3 e4

set_option maxHeartbeats 1000000 in
/-- ZZDescribes: two descriptors made, held against each other. -/
theorem zz5 {H : Type} (a x c m t a' x' c' m' t' : ByteArray) (p p' : Option Nat) (D D' : DataW H) (w : World) (h : Src w p D) (h' : Src w p' D') :
    Calls Try.prog 5 #[.string a, .string x, .string c, .string m, .string t, .map p, .string a', .string x', .string c', .string m', .string t', .map p'] w fun e w' => e = .returned (.bool (same a c m t a' c' m' t' D D')) ∧ w.grownBy w' none := by
  have g1 := fun o => World.grownBy_alloc w o none
  have g2 := fun o o' => grown_trans (g1 o) (World.grownBy_alloc (w.alloc o) o' none)
  have hcon : Calls Try.prog 6 #[.pointer (some ⟨w.heap.size, 0, none⟩), .pointer (some ⟨w.heap.size + 1, 0, none⟩)]
      ((w.alloc (.cells #[.string a, .string x, .string c, .string m, .string t, .map p] 28)).alloc (.cells #[.string a', .string x', .string c', .string m', .string t', .map p'] 28))
      fun e w' => e = .returned (.bool (same a c m t a' c' m' t' D D')) ∧ w.grownBy w' none :=
    (describes6 w.heap.size (w.heap.size + 1) a c m t a' c' m' t' p p' D D' _ (h.kept (g2 _ _)) (h'.kept (g2 _ _))
      (by go_simp) (by go_simp) (by go_simp) (by go_simp) (by go_simp) (by go_simp) (by go_simp) (by go_simp) (by go_simp) (by go_simp)).mono
      fun e w' ⟨he, hg⟩ => ⟨he, grown_trans (g2 _ _) hg⟩
  clear h h' g1 g2
  generalize same a c m t a' c' m' t' D D' = r at *
  go_enter Try.func5, Try.ntmps5
  go_wp2_with (go_at_call 6; refine hcon.mono ?_; rintro e w' ⟨rfl, hg⟩)
  go_ret
  exact ⟨rfl, hg⟩
end Go.Proofs.Qxb6615214a
