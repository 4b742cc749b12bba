/-
  '(*reasonList).end': 'l.ends = append(l.ends, len(l.text))' through a pointer: one region that draws its order.
-/
import Derived.Test.Qxb6616476aRows
import Derived.WalkKit
import Derived.WalkSpells
import Derived.Deep.RegionLaw
import Derived.OneCell
import Derived.Deep.QuietTactic
import Derived.BigQuiet
namespace Go.Proofs.Qxb6616476a
open Go.RowKit

theorem info3 : (Try.prog.info? 3).map (fun i => (i.zero, i.size, i.bytes)) = some (some (.int .i64 0), 1, 8) := by kernel_rfl

/-- append onto nil or onto a row of the call's own, whether it grows or not, as one step of a region that draws. -/
theorem step_append_own {P : Program} {ops : Array Oper} {o : Oper} {a : Act} {w : World} {K : Act → World → Prop} {Q : Exit → Act → World → Prop} {E : Prop}
    (hg : o.guard = none) (s x : Operand) (t : TypeId) (hop : o.op = Op.call { callee := Callee.builtin Builtin.append, args := #[s, x], argTypes := #[t, t] })
    (base : Nat) (e : TypeId) (i : TypeInfo) (z : Value) (size bytes : Nat) (h1 : P.underlying t = some (.slice e)) (h2 : P.info? e = some i) (h3 : i.zero = some z) (h4 : i.size = size) (h5 : i.bytes = bytes) (h6 : z.cells.size = size) (h7 : 0 < size)
    (v : Value) (n : Nat) (xs : List Value) (hs : a.eval s = v) (hown : w.ownsRow base e size v n xs)
    (ad : Addr) (m c : Nat) (news : List Value) (hx : a.eval x = .slice (some ad) m c) (hn : news.length = m * size) (hc : ∀ j u, news[j]? = some u → w.cell? (ad.add j) = some u) (h1c : ∀ u ∈ news, u.oneCell' = true)
    (b1 : n + m ≤ maxLen) (b2 : (n + m) * bytes ≤ 140737488355328) (hbase : base ≤ w.heap.size)
    (hK : ∀ v' w', w'.ownsRow base e size v' (n + m) (xs ++ news) → w.grownBy w' v.ownBlock → K (a.put o.dst v') w') :
    if Region.wanted o (yielded ops a.tmps) = true then Oper.wp P o a w K Q else E := by
  have hw : Region.wanted o (yielded ops a.tmps) = true := by simp [Region.wanted, hg]
  rw [if_pos hw]
  obtain ⟨v', w', hrun, r1, r2, _⟩ := run_append_own (P := P) w base t o.type e i z size bytes h1 h2 h3 h4 h5 h6 h7 v n xs hown ad m c news hn hc h1c b1 b2 hbase
  unfold Oper.wp
  simp [execOp, hop, resolve, invoke, builtin, hs, hx, hrun, Result.andThen]
  exact hK v' w' r1 r2

/-- What has come of w, but for two blocks. -/
structure But2 (w w' : World) (r1 r2 : Option Nat) : Prop where
  os : w'.os = w.os
  tape : w'.tape = w.tape
  output : w'.output = w.output
  size : w.heap.size ≤ w'.heap.size
  block : ∀ k, k < w.heap.size → some k ≠ r1 → some k ≠ r2 → w'.heap[k]? = w.heap[k]?

/-- A row of one element or more is no nil. -/
theorem own_form {w : World} {base : Nat} {e : TypeId} {v : Value} {n : Nat} {xs : List Value} (h : w.ownsRow base e 1 v (n + 1) xs) : ∃ g c, v = .slice (some ⟨g, 0, none⟩) (n + 1) c := by
  rcases h.2 with ⟨_, h⟩ | ⟨g, cap, _, h, _⟩
  · omega
  · exact ⟨g, cap, h⟩

/-- A block of another type is not the row's. -/
theorem own_ne {w : World} {base : Nat} {e : TypeId} {v : Value} {n B : Nat} {xs : List Value} {cs : Array Value} {t : TypeId} {m : Nat × Nat} (h : w.ownsRow base e 1 v n xs) (hB : w.heap[B]? = some (.cells cs t m)) (ht : t ≠ e) : some B ≠ v.ownBlock := by
  rcases h.2 with ⟨rfl, _⟩ | ⟨g, cap, cur, rfl, _, hg, _⟩
  · simp [Value.ownBlock]
  · intro hb
    have hb' : B = g := by simpa [Value.ownBlock] using hb
    subst hb'
    rw [hg] at hB
    simp at hB
    exact ht hB.2.1.symm

theorem setCell_grown (w : World) (a : Addr) (v : Value) : w.grownBy (w.setCell a v) (some a.block) :=
  ⟨rfl, rfl, rfl, by simp [World.setCell], fun k _ hk => heap_setCell_other w a k v (fun e => hk (by rw [e]))⟩

/-- What 'end' leaves, from what its append has left. -/
theorem end_fin {B base T tc n ec g ec' : Nat} {ta eo : Option Addr} {ys : List Value} {w w1 : World} (hstay : w1.heap[B]? = some (.cells #[.slice ta T tc, .slice eo n ec, .slice none 0 0] 115 (0, 0)))
    (hown1 : w1.ownsRow base 3 1 (.slice (some ⟨g, 0, none⟩) (n + 1) ec') (n + 1) ys) (hgrow : (w.alloc (.cells #[.int .i64 T] 3)).drew.grownBy w1 (Value.ownBlock (.slice eo n ec))) :
    (w1.setCell ⟨B, 1, none⟩ (.slice (some ⟨g, 0, none⟩) (n + 1) ec')).ownsRow base 3 1 (.slice (some ⟨g, 0, none⟩) (n + 1) ec') (n + 1) ys ∧
    (w1.setCell ⟨B, 1, none⟩ (.slice (some ⟨g, 0, none⟩) (n + 1) ec')).heap[B]? = some (.cells #[.slice ta T tc, .slice (some ⟨g, 0, none⟩) (n + 1) ec', .slice none 0 0] 115 (0, 0)) ∧
    But2 w (w1.setCell ⟨B, 1, none⟩ (.slice (some ⟨g, 0, none⟩) (n + 1) ec')) (some B) (Value.ownBlock (.slice eo n ec)) := by
  refine ⟨hown1.kept (setCell_grown w1 ⟨B, 1, none⟩ _) (.inr (own_ne hown1 hstay (by decide)).symm), heap_setCell_same w1 B 1 _ 115 _ hstay, ?_⟩
  have hs := hgrow.size
  simp at hs
  refine ⟨hgrow.os, hgrow.tape, hgrow.output, by simp; omega, fun k hk h1 h2 => ?_⟩
  rw [heap_setCell_other w1 ⟨B, 1, none⟩ k _ (fun e => h1 (by rw [e])), hgrow.block k (by simp; omega) h2]
  exact Below.heap_alloc w _ k hk

set_option maxHeartbeats 2000000 in
theorem end38 (B base T tc n ec : Nat) (ta eo : Option Addr) (xs : List Value) (w : World)
    (hB : w.heap[B]? = some (.cells #[.slice ta T tc, .slice eo n ec, .slice none 0 0] 115 (0, 0)))
    (hown : w.ownsRow base 3 1 (.slice eo n ec) n xs) (hbase : base ≤ w.heap.size) (hn : n ≤ 1048576) :
    Calls Try.prog 38 #[.pointer (some ⟨B, 0, none⟩)] w fun e w' => e = .returned (.tuple #[]) ∧ ∃ g ec', w'.ownsRow base 3 1 (.slice (some ⟨g, 0, none⟩) (n + 1) ec') (n + 1) (xs ++ [.int .i64 T]) ∧
      w'.heap[B]? = some (.cells #[.slice ta T tc, .slice (some ⟨g, 0, none⟩) (n + 1) ec', .slice none 0 0] 115 (0, 0)) ∧ But2 w w' (some B) (Value.ownBlock (.slice eo n ec)) := by
  obtain ⟨i0, hi, hz0, hz1, hz2⟩ := info_parts info3
  have c0 : w.cell? ⟨B, 0, none⟩ = some (.slice ta T tc) := by simp [World.cell?, hB]
  have c1 : w.cell? ⟨B, 1, none⟩ = some (.slice eo n ec) := by simp [World.cell?, hB]
  have hlt : B < w.heap.size := (Array.getElem?_eq_some_iff.1 hB).1
  have hne := own_ne hown hB (by decide)
  have HB : Hid _ := hB
  clear hB
  have hstay : ∀ (w1 : World), (w.alloc (.cells #[.int .i64 T] 3)).drew.grownBy w1 (Value.ownBlock (.slice eo n ec)) → w1.heap[B]? = some (.cells #[.slice ta T tc, .slice eo n ec, .slice none 0 0] 115 (0, 0)) := fun w1 hg =>
    (hg.block B (by simp; omega) hne).trans ((Below.heap_alloc w _ B hlt).trans HB.out)
  have hk1 : ∀ (w1 : World), (w.alloc (.cells #[.int .i64 T] 3)).drew.grownBy w1 (Value.ownBlock (.slice eo n ec)) → w1.cell? ⟨B, 1, none⟩ = some (.slice eo n ec) := fun w1 hg => by simp [World.cell?, hstay w1 hg]
  have hf1 : ∀ (w1 : World), (w.alloc (.cells #[.int .i64 T] 3)).drew.grownBy w1 (Value.ownBlock (.slice eo n ec)) → w1.frozen? ⟨B, 1, none⟩ = false := fun w1 hg => by simp [World.frozen?, hstay w1 hg]
  have HS : Hid _ := hstay
  have HK : Hid _ := hk1
  have HF : Hid _ := hf1
  have hone : ∀ u ∈ [Value.int .i64 T], u.oneCell' = true := fun u hu => by rw [List.mem_singleton.1 hu]; rfl
  clear hstay hne hk1 hf1
  go_enter Try.func38, Try.ntmps38
  go_wp2
  go_region_law (refine step_append_own rfl (.tmp 6) (.tmp 12) 51 rfl base 3 i0 (.int .i64 0) 1 8 Try.underlying51 hi hz0 hz1 hz2 rfl (by decide) (.slice eo n ec) n xs (by simp [Act.eval]) (hown.alloc _).drew ⟨w.heap.size, 0, none⟩ 1 1 [.int .i64 T] (by simp [Act.eval]) rfl (cell_one_new _ _ _) hone (by unfold maxLen; omega) (by omega) (by simp; omega) ?_; intro v' w1 hown1 hgrow1; obtain ⟨g, ec', rfl⟩ := own_form hown1; have k1 := HK.out w1 hgrow1; have f1 := HF.out w1 hgrow1)
  all_goals
    go_end0
    exact ⟨rfl, g, ec', end_fin (HS.out w1 hgrow1) hown1 hgrow1⟩
end Go.Proofs.Qxb6616476a
