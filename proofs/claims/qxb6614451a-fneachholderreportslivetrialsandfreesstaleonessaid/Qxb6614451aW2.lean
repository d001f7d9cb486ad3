/- The plain side: a stack of freed entries, the live ones, the chain through the entries. -/
import Derived.Test.Qxb6614451aW1
namespace Go.Proofs.Qxb6614451a
open Go.RowKit

/-- The freed (ff, a stack, its top last), the live (lf), the spare s and the entries f. -/
structure Inv (s : Int) (f : Nat → Nat → Int) (nf : Nat) (ff : Nat → Int) (nl : Nat) (lf : Nat → Int) : Prop where
  fr : ∀ a, a < nf → 0 ≤ ff a ∧ ff a < (nf + nl : Nat)
  lr : ∀ a, a < nl → 0 ≤ lf a ∧ lf a < (nf + nl : Nat)
  fi : ∀ a b, a < nf → b < nf → ff a = ff b → a = b
  li : ∀ a b, a < nl → b < nl → lf a = lf b → a = b
  fl : ∀ a b, a < nf → b < nl → ff a ≠ lf b
  sp : s = if nf = 0 then -1 else ff (nf - 1)
  ch : ∀ a, a < nf → f (ff a).toNat 3 = if a = 0 then -1 else ff (a - 1)

theorem Inv.start (f : Nat → Nat → Int) (ff lf : Nat → Int) : Inv (-1) f 0 ff 0 lf :=
  ⟨fun a h => by omega, fun a h => by omega, fun a b h => by omega, fun a b h => by omega, fun a b h => by omega, rfl, fun a h => by omega⟩

theorem Inv.lt {s : Int} {f : Nat → Nat → Int} {nf nl : Nat} {ff lf : Nat → Int} (h : Inv s f nf ff nl lf) : s < (nf + nl : Nat) := by
  have := h.sp
  by_cases h0 : nf = 0
  · simp [h0] at this; omega
  · simp [h0] at this; rw [this]; exact (h.fr _ (by omega)).2

/-- The latest freed entry is taken again. -/
theorem Inv.reuse {s : Int} {f : Nat → Nat → Int} {nf nl : Nat} {ff lf : Nat → Int} (h : Inv s f (nf + 1) ff nl lf) (k : Nat) (hk : (k : Int) = ff nf) (c t m x : Int) :
    Inv (f k 3) (updE f k c t m x) nf ff (nl + 1) (upd lf nl k) := by
  have hkt : k = (ff nf).toNat := by omega
  refine ⟨fun a ha => ?_, fun a ha => ?_, fun a b ha hb => h.fi a b (by omega) (by omega), fun a b ha hb e => ?_, fun a b ha hb e => ?_, ?_, fun a ha => ?_⟩
  · have := h.fr a (by omega); omega
  · unfold upd
    by_cases hq : a = nl
    · have := h.fr nf (by omega); simp only [hq, if_true]; omega
    · have := h.lr a (by omega); simp only [hq, if_false]; omega
  · unfold upd at e
    by_cases hq : a = nl <;> by_cases hr : b = nl <;> simp only [hq, hr, if_true, if_false] at e
    · omega
    · exact absurd (hk.symm.trans e) (h.fl nf b (by omega) (by omega))
    · exact absurd (hk.symm.trans e.symm) (h.fl nf a (by omega) (by omega))
    · exact h.li a b (by omega) (by omega) e
  · unfold upd at e
    by_cases hr : b = nl <;> simp only [hr, if_true, if_false] at e
    · have := h.fi a nf (by omega) (by omega) (e.trans hk); omega
    · exact h.fl a b (by omega) (by omega) e
  · rw [hkt, h.ch nf (by omega)]
  · have h1 := h.fr a (by omega)
    have h2 := h.fr nf (by omega)
    have hne : (ff a).toNat ≠ k := fun e => by
      have := h.fi a nf (by omega) (by omega) (by omega)
      omega
    rw [← h.ch a (by omega)]
    simp [updE, hne]

/-- A new entry. -/
theorem Inv.grow {s : Int} {f : Nat → Nat → Int} {nl : Nat} {ff lf : Nat → Int} (h : Inv s f 0 ff nl lf) (c t m x : Int) :
    Inv s (updE f nl c t m x) 0 ff (nl + 1) (upd lf nl nl) := by
  refine ⟨fun a ha => by omega, fun a ha => ?_, fun a b ha hb => by omega, fun a b ha hb e => ?_, fun a b ha hb e => by omega, h.sp, fun a ha => by omega⟩
  · unfold upd
    by_cases hq : a = nl
    · simp only [hq, if_true]; omega
    · have := h.lr a (by omega); simp only [hq, if_false]; omega
  · unfold upd at e
    by_cases hq : a = nl <;> by_cases hr : b = nl <;> simp only [hq, hr, if_true, if_false] at e
    · omega
    · have := h.lr b (by omega); omega
    · have := h.lr a (by omega); omega
    · exact h.li a b (by omega) (by omega) e

/-- The live entry at place j is put back. -/
theorem Inv.free {s : Int} {f : Nat → Nat → Int} {nf nl : Nat} {ff lf : Nat → Int} (h : Inv s f nf ff (nl + 1) lf) (j d : Nat) (hj : j < nl + 1) (hd : (d : Int) = lf j) :
    Inv d (updN f d s) (nf + 1) (upd ff nf d) nl (upd lf j (lf nl)) := by
  have hlj := h.lr j (by omega)
  refine ⟨fun a ha => ?_, fun a ha => ?_, fun a b ha hb e => ?_, fun a b ha hb e => ?_, fun a b ha hb e => ?_, ?_, fun a ha => ?_⟩
  · unfold upd
    by_cases hq : a = nf
    · simp only [hq, if_true]; omega
    · have := h.fr a (by omega); simp only [hq, if_false]; omega
  · unfold upd
    by_cases hq : a = j
    · have := h.lr nl (by omega); simp only [hq, if_true]; omega
    · have := h.lr a (by omega); simp only [hq, if_false]; omega
  · unfold upd at e
    by_cases hq : a = nf <;> by_cases hr : b = nf <;> simp only [hq, hr, if_true, if_false] at e
    · omega
    · exact absurd (e.symm.trans hd) (h.fl b j (by omega) (by omega))
    · exact absurd (e.trans hd) (h.fl a j (by omega) (by omega))
    · exact h.fi a b (by omega) (by omega) e
  · unfold upd at e
    by_cases hq : a = j <;> by_cases hr : b = j <;> simp only [hq, hr, if_true, if_false] at e
    · omega
    · have := h.li nl b (by omega) (by omega) e; omega
    · have := h.li a nl (by omega) (by omega) e; omega
    · exact h.li a b (by omega) (by omega) e
  · unfold upd at e
    by_cases hq : a = nf <;> by_cases hr : b = j <;> simp only [hq, hr, if_true, if_false] at e
    · have := h.li j nl (by omega) (by omega) (hd.symm.trans e); omega
    · have := h.li j b (by omega) (by omega) (hd.symm.trans e); omega
    · exact h.fl a nl (by omega) (by omega) e
    · exact h.fl a b (by omega) (by omega) e
  · simp [upd]
  · unfold upd updN
    by_cases hq : a = nf
    · subst hq
      have := h.sp
      by_cases h0 : a = 0
      · subst h0; simpa using this
      · have h1 : a - 1 ≠ a := by omega
        simp only [h0, h1, if_true, if_false, Int.toNat_natCast, and_self] at this ⊢
        exact this
    · have h1 := h.fr a (by omega)
      have hne : (ff a).toNat ≠ d := fun e => h.fl a j (by omega) (by omega) (by omega)
      have h2 : a - 1 ≠ nf := by omega
      simp only [hq, hne, h2, if_false, false_and]
      exact h.ch a (by omega)

/-- The steps of the script, as the law reads them. -/
def StepsAt (w : World) (a : Option Addr) (n : Nat) (S : Nat → Nat → Int) : Prop :=
  0 < n → ∃ b off, a = some ⟨b, off, none⟩ ∧ b < w.heap.size ∧ ∀ i, i < n → w.cell? ⟨b, off + i * 5, none⟩ = some (.int .i32 (S i 0)) ∧ w.cell? ⟨b, off + i * 5 + 1, none⟩ = some (.int .i32 (S i 1)) ∧ w.cell? ⟨b, off + i * 5 + 2, none⟩ = some (.int .i32 (S i 2)) ∧ w.cell? ⟨b, off + i * 5 + 3, none⟩ = some (.int .i32 (S i 3)) ∧ w.cell? ⟨b, off + i * 5 + 4, none⟩ = some (.int .i32 (S i 4)) ∧ -2147483648 ≤ S i 4 ∧ S i 4 ≤ 2147483647

theorem zzBytes7 (a : Option Addr) (n cap : Nat) (w : World) (hn : n ≤ 9223372036854775807) : Calls Try.prog 7 #[.slice a n cap] w fun e w' => (∃ r, e = .returned (.bool r)) ∧ w = w' := by
  go_enter Try.func7, Try.ntmps7
  go_wp2
  all_goals (go_ret; exact ⟨⟨_, rfl⟩, rfl⟩)
theorem zzBytes13 (a : Option Addr) (n cap : Nat) (w : World) (hn : n ≤ 9223372036854775807) : Calls Try.prog 13 #[.slice a n cap] w fun e w' => (∃ r, e = .returned (.bool r)) ∧ w = w' := by
  go_enter Try.func13, Try.ntmps13
  go_wp2
  all_goals (go_ret; exact ⟨⟨_, rfl⟩, rfl⟩)
end Go.Proofs.Qxb6614451a
