/- eachHolder. -/
import Derived.Test.Qxb6614451aW9
namespace Go.Proofs.Qxb6614451a
open Go.RowKit

/-- Below bv, outside three blocks, w' is as w was. -/
structure Fr5 (w w' : World) (g bm bL bv : Nat) : Prop where
  os : w'.os = w.os
  tape : w'.tape = w.tape
  output : w'.output = w.output
  size : w.heap.size ≤ w'.heap.size
  block : ∀ b, b < bv → b ≠ g → b ≠ bm → b ≠ bL → w'.heap[b]? = w.heap[b]?
theorem Fr5.refl (w : World) (g bm bL bv : Nat) : Fr5 w w g bm bL bv := ⟨rfl, rfl, rfl, Nat.le_refl _, fun _ _ _ _ _ => rfl⟩
theorem Fr5.trans {w w1 w2 : World} {g bm bL bv : Nat} (h : Fr5 w w1 g bm bL bv) (k : Fr5 w1 w2 g bm bL bv) : Fr5 w w2 g bm bL bv :=
  ⟨k.os.trans h.os, k.tape.trans h.tape, k.output.trans h.output, Nat.le_trans h.size k.size, fun b h1 h2 h3 h4 => (k.block b h1 h2 h3 h4).trans (h.block b h1 h2 h3 h4)⟩
theorem Fr5.later {w w1 w2 : World} {g bm bL bv : Nat} (h : Fr5 w w1 g bm bL bv) (k : Below w1.heap.size w1 w2) (hb : bv ≤ w1.heap.size) : Fr5 w w2 g bm bL bv :=
  h.trans ⟨k.os, k.tape, k.output, k.size, fun b h1 _ _ _ => k.block b (by omega)⟩
theorem Fr5.off {w w1 w2 : World} {g bm bL bv : Nat} {o : Option Nat} (h : Fr5 w w1 g bm bL bv) (k : Off w1 w2 bv o) (hb : bv ≤ w1.heap.size) (ho : ∀ x, o = some x → bv < x) : Fr5 w w2 g bm bL bv :=
  h.trans ⟨k.os, k.tape, k.output, k.size, fun b h1 _ _ _ => k.block b (by omega) (by omega) (fun e => by have := ho b e.symm; omega)⟩

theorem Got.lts {w : World} {bv B m : Nat} {wf : Nat → Int} {v : Value} (h : Got w bv B m wf v) : bv < w.heap.size ∧ ∀ x, v.ownBlock = some x → bv < x := by
  refine ⟨lt_of_heap h.head, fun x hx => ?_⟩
  obtain ⟨xs, ho, _⟩ := h.row
  have := (ho.lt x hx).1; have := h.lt; omega
theorem Got.same {w w' : World} {bv B m : Nat} {wf : Nat → Int} {v : Value} (h : Got w bv B m wf v) (h1 : w'.heap[bv]? = w.heap[bv]?) (h2 : ∀ x, v.ownBlock = some x → w'.heap[x]? = w.heap[x]?) (h3 : w.heap.size ≤ w'.heap.size) : Got w' bv B m wf v := by
  obtain ⟨xs, ho, hx⟩ := h.row
  exact ⟨h1.trans h.head, ⟨xs, ownsRow_same ho h2, hx⟩, h.lt, Nat.le_trans h.le h3⟩
theorem Got.later {w w' : World} {bv B m : Nat} {wf : Nat → Int} {v : Value} (h : Got w bv B m wf v) (hb : Below w.heap.size w w') : Got w' bv B m wf v := by
  obtain ⟨xs, ho, hx⟩ := h.row
  exact h.same (hb.block bv h.lts.1) (fun x hx => hb.block x (ho.lt x hx).2) hb.size
theorem Got.far {w : World} {bv B m : Nat} {wf : Nat → Int} {v : Value} (h : Got w bv B m wf v) {a : Addr} (ha : a.block < bv) (u : Value) : Got (w.setCell a u) bv B m wf v :=
  h.same (heap_setCell_other _ _ _ _ (by omega)) (fun x hx => heap_setCell_other _ _ _ _ (by have := h.lts.2 x hx; omega)) (by simp)

/-- What the first two tests gather. -/
def c1 (T : Nat → Int) (h : Nat) (fr pu re : Bool) : Bool := decide (0 < T h) && pu && !re && !fr
def c2 (T : Nat → Int) (ho hoT : Int) : Bool := decide (hoT ≠ 0) && decide (hoT = T ho.toNat)
def st1 (T : Nat → Int) (h : Nat) (fr pu re : Bool) (s : St) : St := if c1 T h fr pu re = true then { s with nw := s.nw + 1, wf := upd s.wf s.nw h } else s
def st2 (T : Nat → Int) (ho hoT : Int) (s : St) : St := if c2 T ho hoT = true then { s with nw := s.nw + 1, wf := upd s.wf s.nw ho } else s

def atOf (bm bL h : Nat) (s : St) : Addr := if s.kept = true then ⟨bL, s.last * 4 + 3, none⟩ else ⟨bm, h * 11 + 5, none⟩

/-- The memory behind k entries of the chain. -/
structure Mid (w wr : World) (g bp bf bm bL n nl h : Nat) (T : Nat → Int) (fr pu re : Bool) (ho hoT : Int) (f : Nat → Nat → Int) (seq : Nat → Int) (bv k : Nat) (s : St) : Prop where
  gr : G5 wr g bp bf bm bL n nl h T fr pu re ho hoT (headOf seq k s) (real f seq k s) s.spare
  got : ∃ v, Got wr bv (bv + 1) s.nw s.wf v
  fra : Fr5 w wr g bm bL bv
  lts : g < bv ∧ bp < bv ∧ bf < bv ∧ bm < bv ∧ bL < bv

/-- Behind a call of the closure. -/
theorem Mid.call {w wr w' : World} {g bp bf bm bL n nl h : Nat} {T : Nat → Int} {fr pu re : Bool} {ho hoT : Int} {f : Nat → Nat → Int} {seq : Nat → Int} {bv k k' : Nat} {s s' : St} {v v' : Value} (q : Mid w wr g bp bf bm bL n nl h T fr pu re ho hoT f seq bv k s) (hv : Got wr bv (bv + 1) s.nw s.wf v)
    (hg : Got w' bv (bv + 1) s'.nw s'.wf v') (ho' : Off wr w' bv v.ownBlock) (e1 : headOf seq k' s' = headOf seq k s) (e2 : real f seq k' s' = real f seq k s) (e3 : s'.spare = s.spare) : Mid w w' g bp bf bm bL n nl h T fr pu re ho hoT f seq bv k' s' := by
  obtain ⟨t1, t2, t3, t4, t5⟩ := q.lts
  have hl := hv.lts
  have go : ∀ b, b < bv → w'.heap[b]? = wr.heap[b]? := fun b hb => ho'.block b (by omega) (by omega) (fun e => by have := hl.2 b e.symm; omega)
  refine ⟨?_, ⟨v', hg⟩, q.fra.off ho' (Nat.le_of_lt hl.1) hl.2, q.lts⟩
  rw [e1, e2, e3]
  exact q.gr.same (go _ t1) (go _ t2) (go _ t3) (go _ t4) (go _ t5)
theorem Mid.later {w wr w' : World} {g bp bf bm bL n nl h : Nat} {T : Nat → Int} {fr pu re : Bool} {ho hoT : Int} {f : Nat → Nat → Int} {seq : Nat → Int} {bv k : Nat} {s : St} (q : Mid w wr g bp bf bm bL n nl h T fr pu re ho hoT f seq bv k s) (hb : Below wr.heap.size wr w') : Mid w w' g bp bf bm bL n nl h T fr pu re ho hoT f seq bv k s := by
  obtain ⟨v, hv⟩ := q.got
  exact ⟨q.gr.later hb, ⟨v, hv.later hb⟩, q.fra.later hb (Nat.le_of_lt hv.lts.1), q.lts⟩

/-- Behind unlinkAt. -/
theorem Mid.unlinked {w wr : World} {g bp bf bm bL n nl m h : Nat} {T : Nat → Int} {fr pu re : Bool} {ho hoT : Int} {f : Nat → Nat → Int} {seq : Nat → Int} {bv k : Nat} {s : St} (q : Mid w wr g bp bf bm bL n nl h T fr pu re ho hoT f seq bv k s)
    (hc : Chain f n nl m seq) (hs : StOk f m seq k s) (hk : k < m) (hst : ¬ f (seq k).toNat 1 = T (f (seq k).toNat 0).toNat) :
    Mid w (((wr.setCell (atOf bm bL h s) (.int .i32 (real f seq k s (seq k).toNat 3))).setCell ⟨bL, (seq k).toNat * 4 + 3, none⟩ (.int .i32 s.spare)).setCell ⟨g, 13, none⟩ (.int .i32 (seq k).toNat)).drew g bp bf bm bL n nl h T fr pu re ho hoT f seq bv (k + 1) (stp T f (seq k).toNat s) := by
  obtain ⟨t1, t2, t3, t4, t5⟩ := q.lts
  obtain ⟨v, hv⟩ := q.got
  obtain ⟨hcur, hne⟩ := real_cur hc hs hk
  have h0 := hc.rng k hk
  obtain ⟨r1, r2⟩ := real_stale (T := T) (f := f) (seq := seq) (k := k) (s := s) hne hst
  have hab : (atOf bm bL h s).block < bv := by unfold atOf; split <;> assumption
  have habc : (atOf bm bL h s).block = bm ∨ (atOf bm bL h s).block = bL := by unfold atOf; split <;> simp
  have hsp : (stp T f (seq k).toNat s).spare = ((seq k).toNat : Int) := by unfold stp; rw [if_neg hst]
  have hnw : (stp T f (seq k).toNat s).nw = s.nw ∧ (stp T f (seq k).toNat s).wf = s.wf := by unfold stp; rw [if_neg hst]; exact ⟨rfl, rfl⟩
  have key : G5 (((wr.setCell (atOf bm bL h s) (.int .i32 (real f seq k s (seq k).toNat 3))).setCell ⟨bL, (seq k).toNat * 4 + 3, none⟩ (.int .i32 s.spare)).setCell ⟨g, 13, none⟩ (.int .i32 (seq k).toNat)) g bp bf bm bL n nl h T fr pu re ho hoT (headOf seq (k + 1) (stp T f (seq k).toNat s)) (real f seq (k + 1) (stp T f (seq k).toNat s)) (stp T f (seq k).toNat s).spare := by
    rw [hsp, hcur]
    cases hkp : s.kept with
    | true =>
      rw [r1 hkp]
      have hh : headOf seq (k + 1) (stp T f (seq k).toNat s) = headOf seq k s := by unfold stp; rw [if_neg hst]; simp [headOf, hkp]
      obtain ⟨a, ha, hla⟩ := hs.old hkp
      have hl2 := hc.rng a (by omega)
      rw [hh]
      simp only [atOf, hkp, if_true]
      exact ((q.gr.setNext (i := s.last) (by omega) _).setNext (i := (seq k).toNat) (by omega) _).setSpare _
    | false =>
      rw [r2 hkp]
      have hh : headOf seq (k + 1) (stp T f (seq k).toNat s) = seq (k + 1) := by unfold stp; rw [if_neg hst]; simp [headOf, hkp]
      rw [hh]
      simp only [atOf, hkp]
      exact ((q.gr.setHead _).setNext (i := (seq k).toNat) (by omega) _).setSpare _
  refine ⟨key.later (Below.refl _ _).drew, ⟨v, ?_⟩, q.fra.trans ⟨rfl, rfl, rfl, by show _ ≤ (((wr.setCell _ _).setCell _ _).setCell _ _).heap.size; simp, fun b hb h1 h2 h3 => ?_⟩, q.lts⟩
  · rw [hnw.1, hnw.2]
    exact (((hv.far hab _).far t5 _).far t1 _).later (Below.refl _ _).drew
  · show (((wr.setCell _ _).setCell _ _).setCell _ _).heap[b]? = _
    rw [heap_setCell_other _ _ _ _ h1, heap_setCell_other _ _ _ _ h3, heap_setCell_other _ _ _ _ (by rcases habc with e | e <;> rw [e] <;> assumption)]
end Go.Proofs.Qxb6614451a
