/- The plain side of the fourth law. -/
import Derived.Test.Qxb6608989aMw8
import Derived.Test.Qxb6608989aMw10
namespace Go.Proofs.Qxb6608989a
open Go.RowKit

theorem Try.info46 : (Try.prog.info? 46).map (fun i => (i.zero, i.size, i.bytes)) = some (some (.agg #[.string ByteArray.empty, .bool false, .bool false, .pointer none]), 4, 32) := by kernel_rfl

/-- The states with zi put in at p. -/
def insT (T : Nat → Zs) (p : Nat) (zi : Zs) : Nat → Zs := fun i => if i < p then T i else if i = p then zi else T (i - 1)

theorem fstTo_congr {T T' : Nat → Zs} {nm : ByteArray} {m : Nat} (h : ∀ i, i < m → T i = T' i) : fstTo T nm m = fstTo T' nm m := by
  induction m with
  | zero => rfl
  | succ m ih => rw [fstTo, fstTo, ih (fun i hi => h i (by omega)), h m (by omega)]

theorem fstTo_ins (T : Nat → Zs) (nm : ByteArray) (p n : Nat) (zi : Zs) (h : p ≤ n) : fstTo (insT T p zi) nm (n + 1) = match fstTo T nm p with
    | some i => some i
    | none => if zi.name.toList == nm.toList then some p else (fstTo (fun i => T (p + i)) nm (n - p)).map (p + 1 + ·) := by
  have e1 : fstTo (insT T p zi) nm p = fstTo T nm p := fstTo_congr (fun i hi => by simp [insT, hi])
  have e2 : insT T p zi p = zi := by simp [insT]
  have e3 : fstTo (fun i => insT T p zi (p + 1 + i)) nm (n - p) = fstTo (fun i => T (p + i)) nm (n - p) := fstTo_congr (fun i _ => by
    have h1 : ¬ p + 1 + i < p := by omega
    have h2 : ¬ p + 1 + i = p := by omega
    simp only [insT, h1, h2, if_false]
    rw [show p + 1 + i - 1 = p + i by omega])
  rw [show n + 1 = (p + 1) + (n - p) by omega, fstTo_add, fstTo, e1, e2]
  cases hq : fstTo T nm p with
  | some i => rfl
  | none =>
    simp only []
    by_cases ht : (zi.name.toList == nm.toList) = true
    · rw [if_pos ht, if_pos ht]
    · rw [if_neg ht, if_neg ht]
      simp only [e3]

theorem pick_ins_hit {T : Nat → Zs} {nm : ByteArray} {p n : Nat} {zi : Zs} (h : p ≤ n) (ht : (zi.name.toList == nm.toList) = true) (hi : ∀ i, fstTo T nm n = some i → p ≤ i) : pickTo (insT T p zi) nm (n + 1) = zi := by
  have e := fstTo_ins T nm p n zi h
  cases hq : fstTo T nm p with
  | some i => have := hi i (fstTo_up hq h); have := fstTo_lt hq; omega
  | none =>
    rw [hq, if_pos ht] at e
    rw [pickTo_some e]; simp [insT]

theorem pick_ins_miss {T : Nat → Zs} {nm : ByteArray} {p n : Nat} {zi : Zs} (h : p ≤ n) (ht : (zi.name.toList == nm.toList) = false ∨ ∃ i, fstTo T nm n = some i ∧ i < p) : pickTo (insT T p zi) nm (n + 1) = pickTo T nm n := by
  have e := fstTo_ins T nm p n zi h
  have a := fstTo_add T nm p (n - p)
  rw [show p + (n - p) = n by omega] at a
  cases hq : fstTo T nm p with
  | some i =>
    rw [hq] at e a
    have hl := fstTo_lt hq
    rw [pickTo_some e, pickTo_some a]; simp [insT, hl]
  | none =>
    rw [hq] at e a
    rcases ht with ht | ⟨i, h1, h2⟩
    · rw [if_neg (by simp [ht])] at e
      cases hr : fstTo (fun i => T (p + i)) nm (n - p) with
      | none => rw [hr] at e a; rw [pickTo_none e, pickTo_none a]
      | some j =>
        rw [hr] at e a
        rw [pickTo_some e, pickTo_some a]
        have h1 : ¬ p + 1 + j < p := by omega
        have h2 : ¬ p + 1 + j = p := by omega
        simp only [insT, h1, h2, if_false]
        rw [show p + 1 + j - 1 = p + j by omega]
    · rw [a] at h1
      cases hr : fstTo (fun i => T (p + i)) nm (n - p) with
      | none => rw [hr] at h1; simp at h1
      | some j => rw [hr] at h1; simp at h1; omega

theorem insT_past {T : Nat → Zs} {p i : Nat} {zi : Zs} (h : p ≤ i) : insT T p zi (i + 1) = T i := by
  have h1 : ¬ i + 1 < p := by omega
  have h2 : ¬ i + 1 = p := by omega
  simp [insT, h1, h2]

theorem StatesIn.congr {C : Array Value} {w : World} {g : Nat} {T T' : Nat → Zs} {j : Nat} (h : StatesIn C w g T j) (e : ∀ i, i < j → T i = T' i) : StatesIn C w g T' j := by
  intro i hi
  rw [← e i hi]; exact h i hi

/-- A state z stored behind the first j of T2. -/
theorem StatesIn.putz {C : Array Value} {w : World} {g : Nat} {T : Nat → Zs} {j n : Nat} (h : StatesIn C w g T j) (hs : C.size = n * 4) (hj : j < n) {z : Zs} (hz : T j = z) {p : Option Addr} (hr : RetryAt w (.pointer p) z.retry) (hp : ∀ b o, p = some ⟨b, o, none⟩ → b ≠ g) :
    StatesIn (put4 C (j * 4) (.string z.name) (.bool z.ended) (.bool z.worked) (.pointer p)) (set4 w g (j * 4) (.string z.name) (.bool z.ended) (.bool z.worked) (.pointer p)) g T (j + 1) := by
  subst hz
  exact h.put hs hj hr hp
end Go.Proofs.Qxb6608989a
