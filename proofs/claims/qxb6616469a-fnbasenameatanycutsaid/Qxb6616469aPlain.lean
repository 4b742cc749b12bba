/-
  THE PLAIN LAYER: the tail of a text behind its last '/' (the byte 47), as a list of bytes. No program, no world.
-/
import Derived.Lib.LastIndexByte
import Derived.Lib.Strings
import Derived.Lib.IndexBytes
namespace Go.Proofs.Qxb6616469a

/-- The longest tail without a '/'. -/
def baseL (l : List UInt8) : List UInt8 := (l.reverse.takeWhile (fun c => c != 47)).reverse

theorem takeWhile_all {α : Type} (p : α → Bool) : ∀ l : List α, (∀ x ∈ l, p x = true) → l.takeWhile p = l
  | [], _ => rfl
  | a :: r, h => by
    rw [List.takeWhile_cons, if_pos (h a (by simp)), takeWhile_all p r (fun x hx => h x (by simp [hx]))]

theorem takeWhile_over {α : Type} (p : α → Bool) (m : List α) : ∀ l : List α, (∀ x ∈ l, p x = true) → (l ++ m).takeWhile p = l ++ m.takeWhile p
  | [], _ => rfl
  | a :: r, h => by
    rw [List.cons_append, List.takeWhile_cons, if_pos (h a (by simp)), takeWhile_over p m r (fun x hx => h x (by simp [hx]))]; rfl

theorem takeWhile_short {α : Type} (p : α → Bool) (m : List α) : ∀ l : List α, (∃ x ∈ l, p x = false) → (l ++ m).takeWhile p = l.takeWhile p
  | [], h => by obtain ⟨x, hx, _⟩ := h; cases hx
  | a :: r, h => by
    rw [List.cons_append, List.takeWhile_cons, List.takeWhile_cons]
    cases ha : p a
    · rfl
    · rw [if_pos rfl, if_pos rfl, takeWhile_short p m r (by
        obtain ⟨x, hx, hp⟩ := h
        rcases List.mem_cons.1 hx with e | hx'
        · rw [e, ha] at hp; cases hp
        · exact ⟨x, hx', hp⟩)]

theorem baseL_free {l : List UInt8} (h : (47 : UInt8) ∉ l) : baseL l = l := by
  unfold baseL
  rw [takeWhile_all _ _ (fun x hx => by rw [bne_iff_ne]; rintro rfl; exact h (by simpa using hx)), List.reverse_reverse]

theorem baseL_over (x : List UInt8) {b : List UInt8} (h : (47 : UInt8) ∉ b) : baseL (x ++ b) = baseL x ++ b := by
  unfold baseL
  rw [List.reverse_append, takeWhile_over _ _ _ (fun c hc => by rw [bne_iff_ne]; rintro rfl; exact h (by simpa using hc)), List.reverse_append, List.reverse_reverse]

theorem baseL_behind (x : List UInt8) {b : List UInt8} (h : (47 : UInt8) ∈ b) : baseL (x ++ b) = baseL b := by
  unfold baseL
  rw [List.reverse_append, takeWhile_short _ _ _ ⟨47, by simpa using h, by decide⟩]

theorem baseL_slash : baseL [47] = [] := by decide

theorem takeWhile_says {α : Type} (p : α → Bool) (x : α) : ∀ l : List α, x ∈ l.takeWhile p → p x = true
  | [], h => by cases h
  | a :: r, h => by
    rw [List.takeWhile_cons] at h
    split at h
    · rename_i ha
      rcases List.mem_cons.1 h with e | h'
      · rw [e]; exact ha
      · exact takeWhile_says p x r h'
    · cases h

theorem baseL_mem (l : List UInt8) : (47 : UInt8) ∉ baseL l := by
  unfold baseL
  intro h
  rw [List.mem_reverse] at h
  exact absurd (takeWhile_says _ _ _ h) (by decide)

/-- The text behind the last '/', or all of it. -/
theorem baseL_split (l : List UInt8) : (47 ∉ l ∧ baseL l = l) ∨ ∃ x, l = x ++ [47] ++ baseL l := by
  by_cases h : (47 : UInt8) ∈ l
  · right
    have key : ∀ m : List UInt8, (47 : UInt8) ∈ m → ∃ y, m = m.takeWhile (fun c => c != 47) ++ 47 :: y := by
      intro m
      induction m with
      | nil => intro h; cases h
      | cons a r ih =>
        intro hm
        by_cases ha : a = 47
        · subst ha; exact ⟨r, by simp⟩
        · obtain ⟨y, hy⟩ := ih (by rcases List.mem_cons.1 hm with e | e; exact absurd e.symm ha; exact e)
          refine ⟨y, ?_⟩
          rw [List.takeWhile_cons, if_pos (by rw [bne_iff_ne]; exact ha), List.cons_append, ← hy]
    obtain ⟨y, hy⟩ := key l.reverse (by simpa using h)
    refine ⟨y.reverse, ?_⟩
    have := congrArg List.reverse hy
    rw [List.reverse_reverse, List.reverse_append, List.reverse_cons] at this
    exact this
  · exact .inl ⟨h, baseL_free h⟩

/-- What the Go text cuts: from one behind the last '/' on. -/
def cutAt (s : ByteArray) : Nat := (Lib.lastIndexByte s 47 + 1).toNat
def bn (s : ByteArray) : ByteArray := s.extract (cutAt s) s.size

theorem byte_ne {c : UInt8} : ((c.toNat : Int) = 47) ↔ c = 47 := by
  constructor
  · intro h; exact UInt8.toNat_inj.1 (by show c.toNat = 47; omega)
  · rintro rfl; rfl

theorem at_data (s : ByteArray) (j : Nat) (h : j < s.size) : s.data[j]! = s.data.toList[j]'(by simpa using h) := by
  have h' : j < s.data.size := h
  rw [getElem!_pos s.data j h', Array.getElem_toList]

theorem cutAt_le (s : ByteArray) : cutAt s ≤ s.size := by
  unfold cutAt
  rcases Lib.lastIndexByte_spec s 47 with ⟨e, _⟩ | ⟨i, hi, e, _⟩ <;> rw [e] <;> omega

theorem bn_data (s : ByteArray) : (bn s).data.toList = baseL s.data.toList := by
  unfold bn
  rw [Lib.extract_to_end]
  have hlen : s.data.toList.length = s.size := by simp
  rcases Lib.lastIndexByte_spec s 47 with ⟨e, hn⟩ | ⟨i, hi, e, hc, hn⟩
  · have h0 : cutAt s = 0 := by unfold cutAt; rw [e]; rfl
    rw [h0, List.drop_zero, baseL_free]
    intro hm
    obtain ⟨j, hj, hjj⟩ := List.mem_iff_getElem.1 hm
    refine hn j (by omega) ?_
    rw [at_data s j (by omega), byte_ne]; exact hjj
  · have h0 : cutAt s = i + 1 := by unfold cutAt; rw [e]; omega
    rw [h0]
    have hi' : i < s.data.toList.length := by omega
    have hsp : s.data.toList = (s.data.toList.take i ++ [47]) ++ s.data.toList.drop (i + 1) := by
      have h47 : s.data.toList[i] = 47 := by rw [at_data s i hi, byte_ne] at hc; exact hc
      rw [List.append_assoc, List.singleton_append, ← h47, ← List.drop_eq_getElem_cons hi', List.take_append_drop]
    have hfree : (47 : UInt8) ∉ s.data.toList.drop (i + 1) := by
      intro hm
      obtain ⟨j, hj, hjj⟩ := List.mem_iff_getElem.1 hm
      rw [List.length_drop] at hj
      refine hn (i + 1 + j) (by omega) (by omega) ?_
      rw [at_data s (i + 1 + j) (by omega), byte_ne]
      rw [List.getElem_drop] at hjj; exact hjj
    conv => rhs; rw [hsp]
    rw [baseL_over _ hfree, baseL_behind _ (by simp : (47 : UInt8) ∈ [47]), baseL_slash, List.nil_append]

theorem eq_of_data {a b : ByteArray} (h : a.data.toList = b.data.toList) : a = b := by
  rw [← Lib.mk_data a, ← Lib.mk_data b, h]

theorem append_data (a b : ByteArray) : (a ++ b).data.toList = a.data.toList ++ b.data.toList := by
  simp

/-- THE FIRST LAW's second and third part. -/
theorem bn_under (d p : ByteArray) (sl : ByteArray) (hs : sl.data.toList = [47]) : bn (d ++ sl ++ p) = bn p := by
  apply eq_of_data
  rw [bn_data, bn_data, append_data, append_data, hs]
  by_cases h : (47 : UInt8) ∈ p.data.toList
  · exact baseL_behind _ h
  · rw [baseL_over _ h, baseL_behind _ (by simp : (47 : UInt8) ∈ [47]), baseL_slash, List.nil_append, baseL_free h]

theorem bn_again (p : ByteArray) : bn (bn p) = bn p := by
  apply eq_of_data
  rw [bn_data (bn p), baseL_free]
  rw [bn_data]; exact baseL_mem _

theorem bn_size_le (p : ByteArray) : (bn p).size ≤ p.size := by
  unfold bn
  rw [Lib.size_eq, Lib.extract_to_end, List.length_drop, ← Lib.size_eq]; omega

theorem bn_size (p : ByteArray) : (bn p).size = p.size - cutAt p := by
  unfold bn
  rw [Lib.size_eq, Lib.extract_to_end, List.length_drop, ← Lib.size_eq]

/-- THE SECOND LAW. -/
theorem bn_cut_hit (p : ByteArray) (k : Nat) (h : (47 : UInt8) ∈ (p.extract k p.size).data.toList) : bn p = bn (p.extract k p.size) := by
  apply eq_of_data
  rw [bn_data, bn_data]
  rw [Lib.extract_to_end] at h ⊢
  conv => lhs; rw [← List.take_append_drop k p.data.toList]
  exact baseL_behind _ h

theorem bn_cut_miss (p : ByteArray) (k : Nat) (h : (47 : UInt8) ∉ (p.extract k p.size).data.toList) : bn p = bn (p.extract 0 k) ++ p.extract k p.size := by
  apply eq_of_data
  rw [append_data, bn_data, bn_data]
  have h2 := h
  rw [Lib.extract_to_end] at h2
  rw [Lib.extract_to_end, Lib.extract_data, List.drop_zero, Nat.sub_zero]
  conv => lhs; rw [← List.take_append_drop k p.data.toList]
  exact baseL_over _ h2

theorem bn_tail (p : ByteArray) : p.extract (p.size - (bn p).size) p.size = bn p := by
  have := cutAt_le p
  rw [bn_size]
  unfold bn
  rw [show p.size - (p.size - cutAt p) = cutAt p by omega]

theorem bn_free (p : ByteArray) : (47 : UInt8) ∉ (bn p).data.toList := by rw [bn_data]; exact baseL_mem _

/-- Byte by byte: what 'zzSlashFreeTail' asks of p and its base name. -/
theorem bn_byte (p : ByteArray) (i : Nat) (h : i < (bn p).size) : (bn p).data.toList[i]'(by simpa using h) ≠ 47 ∧ ∃ h2 : p.size - (bn p).size + i < p.data.toList.length, p.data.toList[p.size - (bn p).size + i] = (bn p).data.toList[i]'(by simpa using h) := by
  refine ⟨fun e => bn_free p (e ▸ List.getElem_mem _), ?_⟩
  have hc := cutAt_le p
  have hs := bn_size p
  have hl : p.data.toList.length = p.size := by simp
  refine ⟨by omega, ?_⟩
  have e : (bn p).data.toList = p.data.toList.drop (cutAt p) := by unfold bn; rw [Lib.extract_to_end]
  have e2 : p.size - (bn p).size = cutAt p := by omega
  simp only [e, List.getElem_drop, e2]

theorem bn_edge (p : ByteArray) : (bn p).size = p.size ∨ ∃ h2 : p.size - (bn p).size - 1 < p.data.toList.length, p.data.toList[p.size - (bn p).size - 1] = 47 ∧ (bn p).size < p.size := by
  have hc := cutAt_le p
  have hs := bn_size p
  have hl : p.data.toList.length = p.size := by simp
  rcases Lib.lastIndexByte_spec p 47 with ⟨e, _⟩ | ⟨i, hi, e, h47, _⟩
  · have : cutAt p = 0 := by unfold cutAt; rw [e]; rfl
    left; omega
  · have hci : cutAt p = i + 1 := by unfold cutAt; rw [e]; omega
    right
    have e2 : p.size - (bn p).size - 1 = i := by omega
    refine ⟨by omega, ?_, by omega⟩
    simp only [e2]
    rw [at_data p i hi, byte_ne] at h47; exact h47
end Go.Proofs.Qxb6616469a
