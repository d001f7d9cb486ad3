/- The plain side of the law's own loops. -/
import Derived.Test.Qxb6614451aW12
namespace Go.Proofs.Qxb6614451a
open Go.RowKit

/-- m different numbers below n. -/
theorem pigeon : ∀ (n m : Nat) (g : Nat → Nat), (∀ k, k < m → g k < n) → (∀ a b, a < m → b < m → g a = g b → a = b) → m ≤ n
  | 0, m, g, h, _ => by
    rcases Nat.eq_zero_or_pos m with h0 | h0
    · omega
    · have := h 0 h0; omega
  | n + 1, m, g, h, hi => by
    by_cases hq : ∃ k, k < m ∧ g k = n
    · obtain ⟨k, hk, hgk⟩ := hq
      have := pigeon n (m - 1) (fun i => if i < k then g i else g (i + 1)) (fun i hi' => by
        by_cases hik : i < k
        · have h1 := h i (by omega)
          have h2 : g i ≠ n := fun e => by have := hi i k (by omega) hk (e.trans hgk.symm); omega
          simp only [hik, if_true]; omega
        · have h1 := h (i + 1) (by omega)
          have h2 : g (i + 1) ≠ n := fun e => by have := hi (i + 1) k (by omega) hk (e.trans hgk.symm); omega
          simp only [hik, if_false]; omega) (fun a b ha hb e => by
        by_cases h1 : a < k <;> by_cases h2 : b < k <;> simp only [h1, h2, if_true, if_false] at e
        · exact hi a b (by omega) (by omega) e
        · have := hi a (b + 1) (by omega) (by omega) e; omega
        · have := hi (a + 1) b (by omega) (by omega) e; omega
        · have := hi (a + 1) (b + 1) (by omega) (by omega) e; omega)
      omega
    · have := pigeon n m g (fun k hk => by
        have h1 := h k hk
        have h2 : g k ≠ n := fun e => hq ⟨k, hk, e⟩
        omega) hi
      omega

/-- The chain as far as it has been read; e = seq m comes next. -/
structure PChain (f : Nat → Nat → Int) (n nl m : Nat) (seq : Nat → Int) (on : Nat → Bool) : Prop where
  rng : ∀ k, k < m → 0 ≤ seq k ∧ seq k < nl
  inj : ∀ a b, a < m → b < m → seq a = seq b → a = b
  nxt : ∀ k, k < m → f (seq k).toNat 3 = seq (k + 1)
  crg : ∀ k, k < m → 0 ≤ f (seq k).toNat 0 ∧ f (seq k).toNat 0 < n
  onl : ∀ i, i < nl → on i = false → ∀ k, k < m → seq k ≠ i

theorem PChain.le {f : Nat → Nat → Int} {n nl m : Nat} {seq : Nat → Int} {on : Nat → Bool} (h : PChain f n nl m seq on) : m ≤ nl :=
  pigeon nl m (fun k => (seq k).toNat) (fun k hk => by have := h.rng k hk; omega) (fun a b ha hb e => by
    have h1 := h.rng a ha
    have h2 := h.rng b hb
    exact h.inj a b ha hb (by omega))

theorem PChain.next {f : Nat → Nat → Int} {n nl m : Nat} {seq : Nat → Int} {on : Nat → Bool} (h : PChain f n nl m seq on) {x : Nat} (hx : seq m = x) (hxn : x < nl) (hon : on x = false) (hc : 0 ≤ f x 0 ∧ f x 0 < n) :
    PChain f n nl (m + 1) (upd seq (m + 1) (f x 3)) (updB on x true) ∧ (∀ k, k ≤ m → upd seq (m + 1) (f x 3) k = seq k) := by
  have keep : ∀ k, k ≤ m → upd seq (m + 1) (f x 3) k = seq k := fun k hk => by
    have : k ≠ m + 1 := by omega
    simp [upd, this]
  refine ⟨⟨fun k hk => ?_, fun a b ha hb e => ?_, fun k hk => ?_, fun k hk => ?_, fun i hi ho k hk => ?_⟩, keep⟩
  · rw [keep k (by omega)]
    by_cases hkm : k = m
    · subst hkm; rw [hx]; omega
    · exact h.rng k (by omega)
  · rw [keep a (by omega), keep b (by omega)] at e
    by_cases ham : a = m <;> by_cases hbm : b = m
    · omega
    · subst ham; exact absurd (e.symm.trans hx) (h.onl x hxn hon b (by omega))
    · subst hbm; exact absurd (e.trans hx) (h.onl x hxn hon a (by omega))
    · exact h.inj a b (by omega) (by omega) e
  · rw [keep k (by omega)]
    by_cases hkm : k = m
    · subst hkm; rw [hx]; simp [upd]
    · rw [keep (k + 1) (by omega)]; exact h.nxt k (by omega)
  · rw [keep k (by omega)]
    by_cases hkm : k = m
    · subst hkm; rw [hx]; simpa using hc
    · exact h.crg k (by omega)
  · rw [keep k (by omega)]
    have hix : i ≠ x := fun e => by simp [updB, e] at ho
    by_cases hkm : k = m
    · subst hkm; rw [hx]; omega
    · exact h.onl i hi (by simpa [updB, hix] using ho) k (by omega)

theorem PChain.done {f : Nat → Nat → Int} {n nl m : Nat} {seq : Nat → Int} {on : Nat → Bool} (h : PChain f n nl m seq on) (hm : seq m < 0) : Chain f n nl m seq := ⟨h.rng, h.inj, hm, h.nxt, h.crg⟩
end Go.Proofs.Qxb6614451a
