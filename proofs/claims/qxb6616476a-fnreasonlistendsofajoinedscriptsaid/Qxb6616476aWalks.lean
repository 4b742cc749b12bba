/-
  THE WALKS of the reason list: 'reasonEnds' hands back a slice of its own that holds the running lengths.
-/
import Derived.Test.Qxb6616476aEnd
import Derived.Test.Qxb6616476aPlain
import Derived.Lib.AppendStr
namespace Go.Proofs.Qxb6616476a
open Go.RowKit

theorem info5 : (Try.prog.info? 5).map (fun i => (i.zero, i.size, i.bytes)) = some (some (.int .u8 0), 1, 1) := by kernel_rfl

theorem own_shape {w : World} {base : Nat} {e : TypeId} {v : Value} {n : Nat} {xs : List Value} (h : w.ownsRow base e 1 v n xs) : ∃ ao c, v = .slice ao n c := by
  rcases h.2 with ⟨rfl, rfl⟩ | ⟨g, cap, _, h, _⟩
  · exact ⟨none, 0, rfl⟩
  · exact ⟨_, cap, h⟩

theorem own_apart {w : World} {base base' : Nat} {e e' : TypeId} {v v' : Value} {n n' : Nat} {xs xs' : List Value} (h : w.ownsRow base e 1 v n xs) (h' : w.ownsRow base' e' 1 v' n' xs') (he : e ≠ e') : v.ownBlock = none ∨ v.ownBlock ≠ v'.ownBlock := by
  rcases h.2 with ⟨rfl, _⟩ | ⟨g, cap, cur, rfl, _, hg, _⟩
  · exact .inl rfl
  · exact .inr (own_ne h' hg he)

theorem own_but2 {w w' : World} {base : Nat} {e : TypeId} {v : Value} {n : Nat} {xs : List Value} {r1 r2 : Option Nat} (h : w.ownsRow base e 1 v n xs) (hb : But2 w w' r1 r2) (h1 : v.ownBlock = none ∨ v.ownBlock ≠ r1) (h2 : v.ownBlock = none ∨ v.ownBlock ≠ r2) : w'.ownsRow base e 1 v n xs := by
  refine ⟨h.1, ?_⟩
  rcases h.2 with hx | ⟨g, cap, cur, rfl, hbg, hg, r⟩
  · exact .inl hx
  · refine .inr ⟨g, cap, cur, rfl, hbg, (hb.block g (Array.getElem?_eq_some_iff.1 hg).1 ?_ ?_).trans hg, r⟩
    · exact (h1.resolve_left (by simp [Value.ownBlock])).elim
    · exact (h2.resolve_left (by simp [Value.ownBlock])).elim

theorem below_but2 {B : Nat} {w0 w w' : World} {r1 r2 : Option Nat} (h : Below B w0 w) (hb : But2 w w' r1 r2) (hB : B ≤ w.heap.size) (h1 : ∀ k, r1 = some k → B ≤ k) (h2 : ∀ k, r2 = some k → B ≤ k) : Below B w0 w' :=
  h.trans ⟨hb.os, hb.tape, hb.output, hb.size, fun k hk => hb.block k (by omega) (fun e => by have := h1 k e.symm; omega) (fun e => by have := h2 k e.symm; omega)⟩

/-- ZZnewReasonList. -/
theorem new26 (t e : Value) (w : World) (ta eo : Option Addr) (T tc n ec : Nat) (ht : t = .slice ta T tc) (he : e = .slice eo n ec) :
    Calls Try.prog 26 #[t, e] w fun r w' => r = .returned (.pointer (some ⟨w.heap.size, 0, none⟩)) ∧ w' = w.alloc (.cells #[t, e, .slice none 0 0] 115) := by
  subst ht he
  go_enter Try.func26, Try.ntmps26
  go_wp2
  go_ret
  exact ⟨rfl, rfl⟩

/-- ZZreasonListEnd. -/
theorem end27 (B base T tc n ec : Nat) (ta eo : Option Addr) (xs : List Value) (w : World)
    (hB : w.heap[B]? = some (.cells #[.slice ta T tc, .slice eo n ec, .slice none 0 0] 115 (0, 0)))
    (hown : w.ownsRow base 3 1 (.slice eo n ec) n xs) (hbase : base ≤ w.heap.size) (hn : n ≤ 1048576) :
    Calls Try.prog 27 #[.pointer (some ⟨B, 0, none⟩)] w fun e w' => e = .returned (.tuple #[]) ∧ ∃ g ec', w'.ownsRow base 3 1 (.slice (some ⟨g, 0, none⟩) (n + 1) ec') (n + 1) (xs ++ [.int .i64 T]) ∧
      w'.heap[B]? = some (.cells #[.slice ta T tc, .slice (some ⟨g, 0, none⟩) (n + 1) ec', .slice none 0 0] 115 (0, 0)) ∧ But2 w w' (some B) (Value.ownBlock (.slice eo n ec)) := by
  have hcon := end38 B base T tc n ec ta eo xs w hB hown hbase hn
  clear hB hown
  go_enter Try.func27, Try.ntmps27
  go_wp2_with fail
  refine hcon.mono ?_
  rintro e w' ⟨rfl, g, ec', h1, h2, h3⟩
  go_wp2
  go_end0
  exact ⟨rfl, g, ec', h1, h2, h3⟩

/-- ZZreasonListEnds. -/
theorem ends28 (B : Nat) (t e : Value) (w : World) (hB : w.heap[B]? = some (.cells #[t, e, .slice none 0 0] 115 (0, 0))) :
    Calls Try.prog 28 #[.pointer (some ⟨B, 0, none⟩)] w fun r w' => r = .returned e ∧ w' = w := by
  have c1 : w.cell? ⟨B, 1, none⟩ = some e := by simp [World.cell?, hB]
  clear hB
  go_enter Try.func28, Try.ntmps28
  go_wp2
  go_ret
  exact ⟨rfl, rfl⟩
/-- A slice of texts that lies in w: its first len cells hold ss. -/
def Reads (w : World) (ao : Option Addr) (len : Nat) (ss : List ByteArray) : Prop :=
  ∀ i, i < len → ∃ b off, ao = some ⟨b, off, none⟩ ∧ b < w.heap.size ∧ w.cell? ⟨b, off + i, none⟩ = some (.string (ss.getD i ByteArray.empty))

theorem Reads.below {w w' : World} {ao : Option Addr} {len : Nat} {ss : List ByteArray} (h : Reads w ao len ss) (hb : Below w.heap.size w w') : Reads w' ao len ss := fun i hi => by
  obtain ⟨b, off, e, hlt, hc⟩ := h i hi
  exact ⟨b, off, e, Nat.lt_of_lt_of_le hlt hb.size, (hb.cell (p := ⟨b, off + i, none⟩) hlt).trans hc⟩

/-- One round of 'reasonEnds', told outside the walk. -/
theorem round_fin {w wr w1 w3 : World} {to eo : Option Addr} {tc ec T T' tc' k : Nat} {to' : Option Addr} {bs bs' es : List Value}
    (hT : wr.ownsRow w.heap.size 5 1 (.slice to T tc) T bs) (hE : wr.ownsRow w.heap.size 3 1 (.slice eo k ec) k es) (hb : Below w.heap.size w wr)
    (hT1 : w1.ownsRow w.heap.size 5 1 (.slice to' T' tc') T' bs') (hg1 : wr.grownBy w1 (Value.ownBlock (.slice to T tc)))
    (hb3 : But2 (w1.alloc (.cells #[.slice to' T' tc', .slice eo k ec, .slice none 0 0] 115)) w3 (some w1.heap.size) (Value.ownBlock (.slice eo k ec))) :
    w3.ownsRow w.heap.size 5 1 (.slice to' T' tc') T' bs' ∧ Below w.heap.size w w3 := by
  have hE1 : w1.ownsRow w.heap.size 3 1 (.slice eo k ec) k es := hE.kept hg1 (own_apart hE hT (by decide))
  have hlt := hT1.lt
  constructor
  · refine own_but2 (hT1.alloc _) hb3 (.inr fun e => ?_) (own_apart hT1 hE1 (by decide))
    have := (hlt _ e).2; omega
  · have hb1 : Below w.heap.size w w1 := hb.grown hg1 hb.size (fun k hk => (hT.lt k hk).1)
    refine below_but2 (hb1.alloc hb1.size _) hb3 (by have := hb1.size; simp; omega) (fun k hk => ?_) (fun k hk => (hE1.lt k hk).1)
    cases hk; exact hb1.size

set_option maxHeartbeats 2000000 in
/-- reasonEnds: a slice of its own that holds the running lengths. -/
theorem ends14 (ao : Option Addr) (len cap : Nat) (ss : List ByteArray) (w : World) (hr : Reads w ao len ss) (hlen : len ≤ 1048576) (hsum : sumTo ss len ≤ 1048576) :
    Calls Try.prog 14 #[.slice ao len cap] w fun e w' => ∃ eo ec, e = .returned (.slice eo len ec) ∧ w'.ownsRow w.heap.size 3 1 (.slice eo len ec) len ((endsTo ss len).map (Value.int .i64)) ∧ Below w.heap.size w w' := by
  obtain ⟨i0, hi, hz0, hz1, hz2⟩ := info_parts info5
  have HR : Hid _ := hr
  clear hr
  go_enter Try.func14, Try.ntmps14
  go_wp2
  go_loopw [3, 4, 5] (fun t e i wr => ∃ (k : Nat) (to eo : Option Addr) (tc ec : Nat) (bs : List Value), k ≤ len ∧ i = .int .i64 k ∧ t = .slice to (sumTo ss k) tc ∧ e = .slice eo k ec ∧
      wr.ownsRow w.heap.size 5 1 (.slice to (sumTo ss k) tc) (sumTo ss k) bs ∧ wr.ownsRow w.heap.size 3 1 (.slice eo k ec) k ((endsTo ss k).map (Value.int .i64)) ∧ Below w.heap.size w wr)
    (fun _ _ i _ => len - (intOf i).toNat)
  case atStart => exact ⟨0, none, none, 0, 0, [], Nat.zero_le _, rfl, rfl, rfl, World.ownsRow_nil _ _ _ _, World.ownsRow_nil _ _ _ _, Below.refl _ _⟩
  case round =>
    obtain ⟨k, to, eo, tc, ec, bs, hk, rfl, rfl, rfl, hT, hE, hb⟩ := hrel
    by_cases hlt : k < len
    · obtain ⟨b, off, rfl, hbl, hc⟩ := HR.out k hlt
      have hcr := (hb.cell (p := ⟨b, off + k, none⟩) hbl).trans hc
      have hle := sumTo_le ss (show k + 1 ≤ len by omega)
      rw [sumTo_succ] at hle
      have hsz := hb.size
      have HS : Hid _ := sumTo_succ ss k
      have HE : Hid _ := endsTo_succ ss k
      clear hc
      generalize hs : ss.getD k ByteArray.empty = s at *
      have HG : Hid _ := hs
      clear hs
      go_wp2_with (first
        | (at_builtin; refine Lib.wpList_append_own_string _ rfl _ _ 85 9 rfl w.heap.size 5 i0 Try.underlying85 Try.underlying9 hi hz0 hz1 hz2 _ _ _ rfl hT s rfl (by unfold maxLen; omega) (by omega) hsz ?_; intro v' w1 hT1 hg1 _; obtain ⟨to', tc', hv⟩ := own_shape hT1; rw [hv] at hT1; rw [hv]; clear hv))
      have hE1 := hE.kept hg1 (own_apart hE hT (by decide))
      refine (new26 _ _ _ _ _ _ _ _ _ rfl rfl).mono ?_
      rintro e w2 ⟨rfl, rfl⟩
      go_wp2_with fail
      have hw1 : w.heap.size ≤ w1.heap.size := Nat.le_trans hsz hg1.size
      refine (end27 w1.heap.size w.heap.size _ _ k _ _ _ _ _ (heap_alloc_new w1 _) (hE1.alloc _) (by simp; omega) (by omega)).mono ?_
      rintro e w3 ⟨rfl, g, ec', hE3, hB3, hb3⟩
      have R := round_fin hT hE hb hT1 hg1 hb3
      go_wp2_with fail
      refine (ends28 _ _ _ _ hB3).mono ?_
      rintro e w4 ⟨rfl, rfl⟩
      clear hT hE hb hT1 hg1 hB3 hb3 hE1 hcr
      go_wp2_with fail
      go_roundw
      case rel =>
        refine ⟨k + 1, to', some ⟨g, 0, none⟩, tc', ec', bs ++ Lib.strCells s, by omega, by go_num, by rw [HS.out], rfl, ?_, ?_, R.2⟩
        · rw [HS.out]; exact R.1
        · rw [HE.out, HS.out, List.map_append]; exact hE3
      case measure => simp [intOf]; omega
    · have hkl : k = len := by omega
      subst hkl
      go_wp2
      go_ret
      exact ⟨eo, ec, rfl, hE, hb⟩
end Go.Proofs.Qxb6616476a
