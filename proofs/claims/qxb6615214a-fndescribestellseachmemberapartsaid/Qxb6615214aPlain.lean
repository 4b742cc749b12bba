/-
  THE PLAIN LAYER: two maps of strings as they read, held against each other ('Lib.equalFuncD sameS'): the answer is yes just where the two lists of entries are one. No program, no world.
-/
import Derived.Lib.SlMapEqual
import Derived.Maps.Ext
namespace Go.Proofs.Qxb6615214a
open Go.Maps

/-- Two elements, as they read: the same text? -/
def sameS {H : Type} : DataW H → DataW H → Bool
  | .lit (.string x), .lit (.string y) => x == y
  | _, _ => false

/-- What every map of strings reads as: nil, or its entries in rising order of their keys, each element a text. -/
def Texts {H : Type} (D : DataW H) : Prop :=
  (D = .nil ∨ Canon D) ∧ ∀ p ∈ Lib.entriesD D, ∃ s, p.2 = .lit (.string s)

theorem sameS_eq {H : Type} {a b : DataW H} (h : sameS a b = true) : a = b := by
  unfold sameS at h
  split at h
  · rw [beq_iff_eq] at h; rw [h]
  · cases h

/-- As many, none twice, all of the one among the other: then all of the other are among the one. -/
theorem subset_back {α : Type} : ∀ (l m : List α), l.Nodup → (∀ x ∈ l, x ∈ m) → m.length ≤ l.length → ∀ x ∈ m, x ∈ l
  | [], m, _, _, hl, x, hx => by
    have : m = [] := List.eq_nil_of_length_eq_zero (by simpa using hl)
    subst this; cases hx
  | a :: r, m, hn, hs, hl, x, hx => by
    obtain ⟨s, t, rfl⟩ := List.append_of_mem (hs a (by simp))
    obtain ⟨ha, hr⟩ := List.nodup_cons.1 hn
    have ih := subset_back r (s ++ t) hr (fun y hy => by
      have hy' := hs y (by simp [hy])
      have hne : y ≠ a := fun e => ha (e ▸ hy)
      simp only [List.mem_append, List.mem_cons] at hy' ⊢
      rcases hy' with h | h | h
      · exact .inl h
      · exact absurd h hne
      · exact .inr h) (by simp at hl ⊢; omega)
    simp only [List.mem_append, List.mem_cons] at hx
    rcases hx with h | h | h
    · exact List.mem_cons_of_mem _ (ih x (by simp [h]))
    · subst h; simp
    · exact List.mem_cons_of_mem _ (ih x (by simp [h]))

theorem nodup_of_apart {H : Type} : ∀ {l : List (Lit × DataW H)}, l.Pairwise (fun p q => p.1 ≠ q.1) → l.Nodup
  | [], _ => List.nodup_nil
  | a :: _, h => List.nodup_cons.2 ⟨fun hm => (List.pairwise_cons.1 h).1 a hm rfl, nodup_of_apart (List.pairwise_cons.1 h).2⟩

theorem size_entries {H : Type} (D : DataW H) : Maps.size D = (Lib.entriesD D).length := by cases D <;> rfl

theorem texts_list {H : Type} {D : DataW H} (h : Texts D) : (Lib.entriesD D).Pairwise (fun p q => p.1.before q.1 = true) ∧ ∀ p ∈ Lib.entriesD D, WideAt.IsKeyLit p.1 := by
  rcases h.1 with rfl | ⟨es, rfl, hs, hk⟩
  · exact ⟨List.Pairwise.nil, fun p hp => by cases hp⟩
  · exact ⟨hs, hk⟩

theorem has_entries {H : Type} {D : DataW H} (h : Texts D) (k : Lit) : Maps.has D k = (Lib.entriesD D).any (fun p => p.1.sameKey k) := by
  rcases h.1 with rfl | ⟨es, rfl, _⟩ <;> rfl

theorem at_entries {H : Type} {D : DataW H} (h : Texts D) {p : Lit × DataW H} (hp : p ∈ Lib.entriesD D) : D.atKey p.1 .nil = p.2 := by
  rcases h.1 with rfl | ⟨es, rfl, hs, hk⟩
  · cases hp
  · exact WideAt.atKey_mem .nil (hk p hp) (apart_of_rising hs) hp

theorem equal_iff {H : Type} {D E : DataW H} (h : Texts D) (g : Texts E) : Lib.equalFuncD sameS D E = true ↔ Lib.entriesD D = Lib.entriesD E := by
  obtain ⟨s1, k1⟩ := texts_list h
  obtain ⟨s2, k2⟩ := texts_list g
  unfold Lib.equalFuncD
  rw [Bool.and_eq_true, decide_eq_true_eq, List.all_eq_true, size_entries, size_entries]
  constructor
  · rintro ⟨hl, ha⟩
    have hsub : ∀ p ∈ Lib.entriesD D, p ∈ Lib.entriesD E := fun p hp => by
      have hg := ha p hp
      unfold Lib.goodD at hg
      rw [Bool.and_eq_true, has_entries g] at hg
      obtain ⟨q, hq, hs⟩ := List.any_eq_true.1 hg.1
      have e1 : q.1 = p.1 := WideAt.sameKey_eq hs
      have e2 := sameS_eq hg.2
      rw [← e1, at_entries g hq] at e2
      have : p = q := Prod.ext e1.symm e2
      rw [this]; exact hq
    have hnd : (Lib.entriesD D).Nodup := nodup_of_apart (apart_of_rising s1)
    have hback := subset_back _ _ hnd hsub (by omega)
    exact eq_of_mem_rising s1 s2 (fun p => ⟨hsub p, hback p⟩)
  · intro e
    refine ⟨by rw [e], fun p hp => ?_⟩
    have hp2 : p ∈ Lib.entriesD E := e ▸ hp
    unfold Lib.goodD
    rw [Bool.and_eq_true, has_entries g, at_entries g hp2]
    refine ⟨List.any_eq_true.2 ⟨p, hp2, WideAt.sameKey_self (k1 p hp)⟩, ?_⟩
    obtain ⟨s, hs⟩ := h.2 p hp
    rw [hs]; unfold sameS; simp

theorem equal_refl {H : Type} {D : DataW H} (h : Texts D) : Lib.equalFuncD sameS D D = true := (equal_iff h h).2 rfl

theorem equal_symm {H : Type} {D E : DataW H} (h : Texts D) (g : Texts E) : Lib.equalFuncD sameS D E = Lib.equalFuncD sameS E D := by
  rw [Bool.eq_iff_iff, equal_iff h g, equal_iff g h]
  exact ⟨Eq.symm, Eq.symm⟩

theorem texts_nil {H : Type} : Texts (.nil : DataW H) := ⟨.inl rfl, fun p hp => by cases hp⟩
theorem texts_empty {H : Type} : Texts (.map [] : DataW H) := ⟨.inr canon_empty, fun p hp => by cases hp⟩
theorem texts_one {H : Type} {k : Lit} (hk : WideAt.IsKeyLit k) (s : List UInt8) : Texts (.map [(k, .lit (.string s))] : DataW H) :=
  ⟨.inr ⟨_, rfl, by simp, fun p hp => by simp at hp; rw [hp]; exact hk⟩, fun p hp => by
    have hp' : p = (k, .lit (.string s)) := by simpa [Lib.entriesD] using hp
    exact ⟨s, by rw [hp']⟩⟩

theorem put_one {H : Type} (k : Lit) (d : DataW H) : (DataW.map [] : DataW H).put k d = .map [(k, d)] := rfl

theorem equal_one {H : Type} {k : Lit} (hk : WideAt.IsKeyLit k) (s t : List UInt8) : Lib.equalFuncD (H := H) sameS (.map [(k, .lit (.string s))]) (.map [(k, .lit (.string t))]) = (s == t) := by
  rw [Bool.eq_iff_iff, equal_iff (texts_one hk s) (texts_one hk t), beq_iff_eq]
  simp [Lib.entriesD]
theorem equal_one_nil {H : Type} (k : Lit) (d : DataW H) : Lib.equalFuncD (H := H) sameS (.map [(k, d)]) .nil = false := rfl
theorem equal_nil_empty {H : Type} : Lib.equalFuncD (H := H) sameS .nil (.map []) = true := rfl
end Go.Proofs.Qxb6615214a
