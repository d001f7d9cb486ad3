/- The plain side of the two laws on keysIn: no Go in sight. -/
import Derived.Test.Qxb6608989aProg
namespace Go.Proofs.Qxb6608989a

/-- The keys of the first k pairs whose scope is sc, in order. -/
def keysTo (S : Nat → Nat → ByteArray) (sc : ByteArray) : Nat → List ByteArray
  | 0 => []
  | k + 1 => keysTo S sc k ++ (if (S k 0).toList == sc.toList then [S k 1] else [])

theorem keysTo_hit (S : Nat → Nat → ByteArray) (sc : ByteArray) (k : Nat) (h : ((S k 0).toList == sc.toList) = true) : keysTo S sc (k + 1) = keysTo S sc k ++ [S k 1] := by
  rw [keysTo, if_pos h]
theorem keysTo_miss (S : Nat → Nat → ByteArray) (sc : ByteArray) (k : Nat) (h : ((S k 0).toList == sc.toList) = false) : keysTo S sc (k + 1) = keysTo S sc k := by
  rw [keysTo, if_neg (by simp [h])]; simp
theorem keysTo_le (S : Nat → Nat → ByteArray) (sc : ByteArray) (k : Nat) : (keysTo S sc k).length ≤ k := by
  induction k with
  | zero => simp [keysTo]
  | succ k ih => rw [keysTo]; split <;> simp <;> omega
theorem keysTo_add (S : Nat → Nat → ByteArray) (sc : ByteArray) (p m : Nat) : keysTo S sc (p + m) = keysTo S sc p ++ keysTo (fun i => S (p + i)) sc m := by
  induction m with
  | zero => simp [keysTo]
  | succ m ih => rw [← Nat.add_assoc, keysTo, ih, keysTo, List.append_assoc]
theorem keysTo_congr (S S' : Nat → Nat → ByteArray) (sc : ByteArray) (m : Nat) (h : ∀ i, i < m → S i = S' i) : keysTo S sc m = keysTo S' sc m := by
  induction m with
  | zero => rfl
  | succ m ih => rw [keysTo, keysTo, ih (fun i hi => h i (by omega)), h m (by omega)]

end Go.Proofs.Qxb6608989a
