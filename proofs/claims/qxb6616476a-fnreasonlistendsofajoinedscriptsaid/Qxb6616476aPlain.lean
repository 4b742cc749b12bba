/-
  THE PLAIN LAYER: running lengths of a list of texts. No program, no world.
-/
namespace Go.Proofs.Qxb6616476a

/-- The total length of the first k texts. -/
def sumTo (ss : List ByteArray) : Nat → Nat
  | 0 => 0
  | k + 1 => sumTo ss k + (ss.getD k ByteArray.empty).size

theorem sumTo_succ (ss : List ByteArray) (k : Nat) : sumTo ss (k + 1) = sumTo ss k + (ss.getD k ByteArray.empty).size := rfl

theorem sumTo_mono (ss : List ByteArray) (k : Nat) : ∀ d, sumTo ss k ≤ sumTo ss (k + d)
  | 0 => Nat.le_refl _
  | d + 1 => Nat.le_trans (sumTo_mono ss k d) (Nat.le_add_right _ _)

theorem sumTo_le (ss : List ByteArray) {k n : Nat} (h : k ≤ n) : sumTo ss k ≤ sumTo ss n := by
  have := sumTo_mono ss k (n - k)
  rwa [show k + (n - k) = n by omega] at this

/-- The ends of the first k texts. -/
def endsTo (ss : List ByteArray) (k : Nat) : List Int := (List.range k).map (fun i => (sumTo ss (i + 1) : Int))

theorem endsTo_succ (ss : List ByteArray) (k : Nat) : endsTo ss (k + 1) = endsTo ss k ++ [(sumTo ss (k + 1) : Int)] := by
  unfold endsTo; rw [List.range_succ, List.map_append]; rfl

theorem endsTo_length (ss : List ByteArray) (k : Nat) : (endsTo ss k).length = k := by unfold endsTo; simp

theorem endsTo_get (ss : List ByteArray) (k i : Nat) (h : i < k) : (endsTo ss k)[i]? = some (sumTo ss (i + 1) : Int) := by
  unfold endsTo; simp [h]

theorem join_left (a b : List ByteArray) (i : Nat) (h : i < a.length) : (a ++ b).getD i ByteArray.empty = a.getD i ByteArray.empty := by
  simp [List.getD, List.getElem?_append_left h]

theorem join_right (a b : List ByteArray) (j : Nat) : (a ++ b).getD (a.length + j) ByteArray.empty = b.getD j ByteArray.empty := by
  simp [List.getD, List.getElem?_append_right]

theorem sumTo_left (a b : List ByteArray) : ∀ k, k ≤ a.length → sumTo (a ++ b) k = sumTo a k
  | 0, _ => rfl
  | k + 1, h => by rw [sumTo_succ, sumTo_succ, sumTo_left a b k (by omega), join_left a b k (by omega)]

theorem sumTo_right (a b : List ByteArray) : ∀ j, sumTo (a ++ b) (a.length + j) = sumTo a a.length + sumTo b j
  | 0 => sumTo_left a b _ (Nat.le_refl _)
  | j + 1 => by rw [← Nat.add_assoc, sumTo_succ, sumTo_succ, sumTo_right a b j, join_right a b j, Nat.add_assoc]

theorem take_getD (a : List ByteArray) (n i : Nat) (h : i < n) : (a.take n).getD i ByteArray.empty = a.getD i ByteArray.empty := by
  simp [List.getD, h]

theorem sumTo_take (a : List ByteArray) (n : Nat) : ∀ k, k ≤ n → sumTo (a.take n) k = sumTo a k
  | 0, _ => rfl
  | k + 1, h => by rw [sumTo_succ, sumTo_succ, sumTo_take a n k (by omega), take_getD a n k (by omega)]
end Go.Proofs.Qxb6616476a
