/- One entry of the chain more. -/
import Derived.Test.Qxb6614451aW14
namespace Go.Proofs.Qxb6614451a
open Go.RowKit

section
variable {T : Nat → Int} {f : Nat → Nat → Int} {seq : Nat → Int} {S s : St} {i x c : Nat}
theorem runs_live (hs : runs T f seq S i = s) (hx : seq i = x) (hc : f x 0 = c) (hl : f x 1 = T c) :
    runs T f seq S (i + 1) = { ex := if s.kept then upd s.ex s.last x else s.ex, head := if s.kept then s.head else x, spare := s.spare, last := x, kept := true, nw := s.nw + 1, wf := upd s.wf s.nw c } := by
  show stp T f (seq i).toNat (runs T f seq S i) = _
  rw [hs, hx, Int.toNat_natCast]
  unfold stp
  rw [hc, Int.toNat_natCast, if_pos hl]
theorem runs_stale (hs : runs T f seq S i = s) (hx : seq i = x) (hc : f x 0 = c) (hl : ¬ f x 1 = T c) :
    runs T f seq S (i + 1) = { ex := upd s.ex x s.spare, head := s.head, spare := x, last := s.last, kept := s.kept, nw := s.nw, wf := s.wf } := by
  show stp T f (seq i).toNat (runs T f seq S i) = _
  rw [hs, hx, Int.toNat_natCast]
  unfold stp
  rw [hc, Int.toNat_natCast, if_neg hl]
end

theorem Got.ints {w : World} {bv B m : Nat} {wf : Nat → Int} {v : Value} (h : Got w bv B m wf v) : Ints w v m wf := by
  obtain ⟨xs, ho, hx⟩ := h.row
  rcases ho.2 with ⟨h', h0⟩ | ⟨g', cap', cur, h', _⟩
  · subst h0; exact ⟨none, 0, h', fun h => absurd h (Nat.lt_irrefl 0)⟩
  · subst h'
    refine ⟨some ⟨g', 0, none⟩, cap', rfl, fun _ => ⟨g', 0, rfl, fun k hk => ?_⟩⟩
    rw [Nat.zero_add, ho.cellAt k (by omega)]; exact hx k hk
theorem Row.ints {w : World} {b cap m : Nat} {h : Nat → Int} (r : Row w b cap m h) : Ints w (.slice (some ⟨b, 0, none⟩) m cap) m h :=
  ⟨some ⟨b, 0, none⟩, cap, rfl, fun _ => ⟨b, 0, rfl, fun k hk => by rw [Nat.zero_add]; exact r.cell hk⟩⟩
theorem Fr5.below {w w1 : World} {g bm bL bv B : Nat} (h : Fr5 w w1 g bm bL bv) (h0 : B ≤ bv) (h1 : B ≤ g) (h2 : B ≤ bm) (h3 : B ≤ bL) : Below B w w1 :=
  ⟨h.os, h.tape, h.output, h.size, fun b hb => h.block b (by omega) (by omega) (by omega) (by omega)⟩
end Go.Proofs.Qxb6614451a
