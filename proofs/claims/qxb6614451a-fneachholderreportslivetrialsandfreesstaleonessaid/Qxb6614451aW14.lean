/- What the walk of the third law owns. -/
import Derived.Test.Qxb6614451aW13
import Derived.Deep.MidRow
namespace Go.Proofs.Qxb6614451a
open Go.RowKit

theorem Try.size42 : (Try.prog.info? 42).map (·.size) = some 11 := by kernel_rfl
theorem Try.size47 : (Try.prog.info? 47).map (·.size) = some 4 := by kernel_rfl
theorem one11 (T ho hoT hd : Int) (p q : Bool) : (#[Value.int .i32 0, .int .i32 T, .int .i32 0, .int .i32 ho, .int .i32 hoT, .int .i32 hd, .int .i32 0, .bool false, .bool p, .bool q, .bool false] : Array Value).all (·.oneCell') = true := by
  simp [Value.oneCell']
theorem one4 (a b c d : Int) : (#[Value.int .i32 a, .int .i32 b, .int .i32 c, .int .i32 d] : Array Value).all (·.oneCell') = true := by
  simp [Value.oneCell']

def TriesAt (w : World) (a : Option Addr) (n : Nat) (T : Nat → Int) : Prop := 0 < n → ∃ b off, a = some ⟨b, off, none⟩ ∧ b < w.heap.size ∧ ∀ i, i < n → w.cell? ⟨b, off + i, none⟩ = some (.int .i32 (T i))
def LinksAt (w : World) (a : Option Addr) (nl : Nat) (f : Nat → Nat → Int) : Prop := 0 < nl → ∃ b off, a = some ⟨b, off, none⟩ ∧ b < w.heap.size ∧ ∀ i, i < nl → w.cell? ⟨b, off + i * 4, none⟩ = some (.int .i32 (f i 0)) ∧ w.cell? ⟨b, off + i * 4 + 1, none⟩ = some (.int .i32 (f i 1)) ∧ w.cell? ⟨b, off + i * 4 + 2, none⟩ = some (.int .i32 (f i 2)) ∧ w.cell? ⟨b, off + i * 4 + 3, none⟩ = some (.int .i32 (f i 3)) ∧ (-2147483648 ≤ f i 0 ∧ f i 0 ≤ 2147483647) ∧ (-2147483648 ≤ f i 3 ∧ f i 3 ≤ 2147483647)
theorem TriesAt.later {w w' : World} {a : Option Addr} {n : Nat} {T : Nat → Int} (h : TriesAt w a n T) (hb : Below w.heap.size w w') : TriesAt w' a n T := by
  intro hn
  obtain ⟨b, off, rfl, hl, hc⟩ := h hn
  exact ⟨b, off, rfl, Nat.lt_of_lt_of_le hl hb.size, fun i hi => (hb.cell (p := ⟨b, off + i, none⟩) hl).trans (hc i hi)⟩
theorem LinksAt.later {w w' : World} {a : Option Addr} {n : Nat} {f : Nat → Nat → Int} (h : LinksAt w a n f) (hb : Below w.heap.size w w') : LinksAt w' a n f := by
  intro hn
  obtain ⟨b, off, rfl, hl, hc⟩ := h hn
  refine ⟨b, off, rfl, Nat.lt_of_lt_of_le hl hb.size, fun i hi => ?_⟩
  obtain ⟨c0, c1, c2, c3, h⟩ := hc i hi
  exact ⟨(hb.cell (p := ⟨b, off + i * 4, none⟩) hl).trans c0, (hb.cell (p := ⟨b, off + i * 4 + 1, none⟩) hl).trans c1, (hb.cell (p := ⟨b, off + i * 4 + 2, none⟩) hl).trans c2, (hb.cell (p := ⟨b, off + i * 4 + 3, none⟩) hl).trans c3, h⟩

theorem Row.congr {w : World} {b cap m : Nat} {h h' : Nat → Int} (r : Row w b cap m h) (e : ∀ k, k < m → h k = h' k) : Row w b cap m h' := by
  obtain ⟨xs, ho, hx⟩ := r
  exact ⟨xs, ho, fun k hk => by rw [← e k hk]; exact hx k hk⟩

/-- One more element where there is room. -/
theorem Row.app {w w' : World} {b cap m : Nat} {h : Nat → Int} {xs : List Value} {x : Int} {o : Obj} (hl : xs.length = m) (hx : ∀ k, k < m → xs[k]? = some (.int .i32 (h k)))
    (hown : w'.ownsRow b 21 1 (.slice (some ⟨b, 0, none⟩) (m + 1) cap) (m + 1) (xs ++ [.int .i32 x])) (hg : (w.alloc o).grownBy w' (some b)) :
    Row w' b cap (m + 1) (upd h m x) ∧ Off w w' b none := by
  refine ⟨Row.push hown hl hx, hg.os, hg.tape, hg.output, Nat.le_trans (by simp) hg.size, fun k hk h1 _ => ?_⟩
  exact (hg.block k (by simp; omega) (fun e => h1 (by simpa using e))).trans (heap_alloc_old w o hk)

/-- The first loop's memory. -/
structure Mem1 (w : World) (H nl m : Nat) (seq : Nat → Int) (on : Nat → Bool) : Prop where
  rb : RowB w H nl on
  rr : Row w (H + 1) nl m seq

theorem mem1_start (w : World) (nl : Nat) (hn : nl ≤ maxLen) (seq : Nat → Int) :
    Mem1 ((w.alloc (.cells (madeCells #[.bool false] (nl * 1)) 4)).alloc (.cells (madeCells #[.int .i32 0] (nl * 1)) 21)) w.heap.size nl 0 seq (fun _ => false) := by
  have h1 := row_empty (w.alloc (.cells (madeCells #[.bool false] (nl * 1)) 4)) nl hn
  simp only [World.size_alloc] at h1
  exact ⟨(rowB_made w nl hn).alloc _, h1.congr (fun k hk => by omega)⟩

theorem Mem1.push {w w' : World} {H nl m : Nat} {seq : Nat → Int} {on : Nat → Bool} {xs : List Value} {x : Nat} {o : Obj} (h : Mem1 w H nl m seq on) (hx : seq m = x) (hxl : xs.length = m) (hxs : ∀ k, k < m → xs[k]? = some (.int .i32 (seq k)))
    (hown : w'.ownsRow (H + 1) 21 1 (.slice (some ⟨H + 1, 0, none⟩) (m + 1) nl) (m + 1) (xs ++ [.int .i32 x])) (hg : ((w.setCell ⟨H, x, none⟩ (.bool true)).alloc o).grownBy w' (some (H + 1))) (y : Int) :
    Mem1 w' H nl (m + 1) (upd seq (m + 1) y) (updB on x true) ∧ Below H w w' := by
  obtain ⟨r, hf⟩ := Row.app hxl hxs hown hg
  have h1 := h.rr.lt
  refine ⟨⟨(h.rb.set x true).off hf (by omega) (by simp), r.congr (fun k hk => ?_)⟩, ?_⟩
  · have : k ≠ m + 1 := by omega
    by_cases hkm : k = m
    · subst hkm; simp [upd, hx]
    · simp [upd, this, hkm]
  · exact ((Below.refl H w).setCell (by simp) _).trans (hf.below (by omega) (by simp; omega) (by simp))

theorem put_heap (b : Nat) (t : TypeId) : ∀ (vs : List Value) (o : Nat) (w : World) (M : Array Value), w.heap[b]? = some (.cells M t (0, 0)) →
    ∃ M', (w.setCells b o vs).heap[b]? = some (.cells M' t (0, 0)) ∧ M'.size = M.size ∧ (∀ j, j < o ∨ o + vs.length ≤ j → M'[j]? = M[j]?) ∧ (∀ j, j < vs.length → o + j < M.size → M'[o + j]? = vs[j]?)
  | [], o, w, M, h => ⟨M, h, rfl, fun _ _ => rfl, fun j hj => by simp at hj⟩
  | v :: vs, o, w, M, h => by
    obtain ⟨M', h1, h2, h3, h4⟩ := put_heap b t vs (o + 1) _ _ (heap_setCell_same w b o M t v h)
    refine ⟨M', h1, by simpa using h2, fun j hj => ?_, fun j hj hs => ?_⟩
    · rw [h3 j (by simp at hj ⊢; omega), Array.getElem?_setIfInBounds_ne (by simp at hj; omega)]
    · cases j with
      | zero => rw [h3 _ (by omega)]; simp at hs ⊢; simp [hs]
      | succ j =>
        have := h4 j (by simpa using hj) (by simp; omega)
        rw [show o + (j + 1) = o + 1 + j by omega, this]; simp

theorem put_below {B b : Nat} (hb : B ≤ b) : ∀ (vs : List Value) (o : Nat) (w : World), Below B w (w.setCells b o vs)
  | [], _, _ => Below.refl _ _
  | v :: vs, o, w => ((Below.refl B w).setCell (by simpa using hb) v).trans (put_below hb vs (o + 1) _)

/-- The members, i of them written. -/
def Mem2 (w : World) (bm n i h : Nat) (T : Nat → Int) (pu re : Bool) (ho hoT hd : Int) : Prop := ∃ M : Array Value, w.heap[bm]? = some (.cells M 42 (0, 0)) ∧ M.size = n * 11 ∧ ∀ k, k < i → M[k * 11 + 1]? = some (.int .i32 (T k)) ∧
  (k = h → M[k * 11 + 3]? = some (.int .i32 ho) ∧ M[k * 11 + 4]? = some (.int .i32 hoT) ∧ M[k * 11 + 5]? = some (.int .i32 hd) ∧ M[k * 11 + 8]? = some (.bool pu) ∧ M[k * 11 + 9]? = some (.bool re))

section
variable {w w1 : World} {bm n i h : Nat} {T : Nat → Int} {pu re : Bool} {ho hoT hd : Int}
theorem Mem2.there (q : Mem2 w bm n i h T pu re ho hoT hd) (hi : i < n) : w.there bm (i * 11) 11 := by
  obtain ⟨M, h1, h2, _⟩ := q
  exact fun j hj => ⟨by obtain ⟨x, hx⟩ := getC h1 (k := i * 11 + j) (by omega); rw [hx]; rfl, frzC h1 _⟩
theorem Mem2.lt (q : Mem2 w bm n i h T pu re ho hoT hd) : bm < w.heap.size := by
  obtain ⟨M, h1, _⟩ := q
  exact lt_of_heap h1
theorem Mem2.same (q : Mem2 w bm n i h T pu re ho hoT hd) (hs : w1.heap[bm]? = w.heap[bm]?) : Mem2 w1 bm n i h T pu re ho hoT hd := by
  obtain ⟨M, h1, h2⟩ := q
  exact ⟨M, hs.trans h1, h2⟩
theorem Mem2.step (q : Mem2 w bm n i h T pu re ho hoT hd) (hi : i < n) (vs : List Value) (hl : vs.length = 11) (h1 : vs[1]? = some (.int .i32 (T i)))
    (hh : i = h → vs[3]? = some (.int .i32 ho) ∧ vs[4]? = some (.int .i32 hoT) ∧ vs[5]? = some (.int .i32 hd) ∧ vs[8]? = some (.bool pu) ∧ vs[9]? = some (.bool re)) : Mem2 (w.setCells bm (i * 11) vs) bm n (i + 1) h T pu re ho hoT hd := by
  obtain ⟨M, m1, m2, m3⟩ := q
  obtain ⟨M', e1, e2, e3, e4⟩ := put_heap bm 42 vs (i * 11) w M m1
  refine ⟨M', e1, e2.trans m2, fun k hk => ?_⟩
  by_cases hki : k = i
  · subst hki
    refine ⟨(e4 1 (by omega) (by omega)).trans h1, fun e => ?_⟩
    obtain ⟨a3, a4, a5, a8, a9⟩ := hh e
    exact ⟨(e4 3 (by omega) (by omega)).trans a3, (e4 4 (by omega) (by omega)).trans a4, (e4 5 (by omega) (by omega)).trans a5, (e4 8 (by omega) (by omega)).trans a8, (e4 9 (by omega) (by omega)).trans a9⟩
  · obtain ⟨b1, b2⟩ := m3 k (by omega)
    refine ⟨(e3 _ (by omega)).trans b1, fun e => ?_⟩
    obtain ⟨a3, a4, a5, a8, a9⟩ := b2 e
    exact ⟨(e3 _ (by omega)).trans a3, (e3 _ (by omega)).trans a4, (e3 _ (by omega)).trans a5, (e3 _ (by omega)).trans a8, (e3 _ (by omega)).trans a9⟩
end

/-- The links, i of them written. -/
def Mem3 (w : World) (bL nl i : Nat) (f : Nat → Nat → Int) : Prop := ∃ L : Array Value, w.heap[bL]? = some (.cells L 47 (0, 0)) ∧ L.size = nl * 4 ∧ ∀ k j, k < i → j < 4 → L[k * 4 + j]? = some (.int .i32 (f k j))
section
variable {w w1 : World} {bL nl i : Nat} {f : Nat → Nat → Int}
theorem Mem3.there (q : Mem3 w bL nl i f) (hi : i < nl) : w.there bL (i * 4) 4 := by
  obtain ⟨M, h1, h2, _⟩ := q
  exact fun j hj => ⟨by obtain ⟨x, hx⟩ := getC h1 (k := i * 4 + j) (by omega); rw [hx]; rfl, frzC h1 _⟩
theorem Mem3.lt (q : Mem3 w bL nl i f) : bL < w.heap.size := by
  obtain ⟨M, h1, _⟩ := q
  exact lt_of_heap h1
theorem Mem3.same (q : Mem3 w bL nl i f) (hs : w1.heap[bL]? = w.heap[bL]?) : Mem3 w1 bL nl i f := by
  obtain ⟨M, h1, h2⟩ := q
  exact ⟨M, hs.trans h1, h2⟩
theorem Mem3.step (q : Mem3 w bL nl i f) (hi : i < nl) : Mem3 (w.setCells bL (i * 4) [.int .i32 (f i 0), .int .i32 (f i 1), .int .i32 (f i 2), .int .i32 (f i 3)]) bL nl (i + 1) f := by
  obtain ⟨M, m1, m2, m3⟩ := q
  obtain ⟨M', e1, e2, e3, e4⟩ := put_heap bL 47 [.int .i32 (f i 0), .int .i32 (f i 1), .int .i32 (f i 2), .int .i32 (f i 3)] (i * 4) w M m1
  refine ⟨M', e1, e2.trans m2, fun k j hk hj => ?_⟩
  by_cases hki : k = i
  · subst hki
    have := e4 j (by simpa using hj) (by omega)
    rw [this]
    have : j = 0 ∨ j = 1 ∨ j = 2 ∨ j = 3 := by omega
    rcases this with rfl | rfl | rfl | rfl <;> rfl
  · rw [e3 _ (by simp; omega)]; exact m3 k j (by omega) hj
end

/-- The graph that the law makes. -/
theorem g5_made {wB wD : World} {M0 n nl h : Nat} {T : Nat → Int} {fr pu re : Bool} {ho hoT hd sp : Int} {f : Nat → Nat → Int} {A : Array Value} {R G : Array Value} (hh : h < n) (hA : A[h]? = some (.bool fr))
    (q2 : Mem2 wB M0 n n h T pu re ho hoT hd) (hb : Below (wB.heap.size + 1) (wB.alloc (.cells A 4)) wD) (q3 : Mem3 wD (wB.heap.size + 1) nl nl f)
    (r0 : R[0]? = some (.slice (some ⟨wB.heap.size, 0, none⟩) n n)) (gs : G.size = 23) (g0 : G[0]? = some (.pointer (some ⟨wD.heap.size, 0, none⟩))) (g6 : G[6]? = some (.slice (some ⟨M0, 0, none⟩) n n)) (g12 : G[12]? = some (.slice (some ⟨wB.heap.size + 1, 0, none⟩) nl nl)) (g13 : G[13]? = some (.int .i32 sp)) :
    G5 ((wD.alloc (.cells R 71)).alloc (.cells G 64)) (wD.heap.size + 1) wD.heap.size wB.heap.size M0 (wB.heap.size + 1) n nl h T fr pu re ho hoT hd f sp := by
  have l1 := q2.lt
  have l2 := q3.lt
  have hs := hb.size
  have old : ∀ b, b < wD.heap.size → ((wD.alloc (.cells R 71)).alloc (.cells G 64)).heap[b]? = wD.heap[b]? := fun b hbb => (heap_alloc_old _ _ (by simp; omega)).trans (heap_alloc_old _ _ hbb)
  have hF : wD.heap[wB.heap.size]? = some (.cells A 4 (0, 0)) := by
    rw [hb.block wB.heap.size (by omega)]
    exact heap_alloc_new wB _
  have hM : wD.heap[M0]? = wB.heap[M0]? := by
    rw [hb.block M0 (by omega)]
    exact heap_alloc_old _ _ l1
  obtain ⟨M, m1, m2, m3⟩ := q2
  obtain ⟨L, k1, k2, k3⟩ := q3
  obtain ⟨a3, a4, a5, a8, a9⟩ := (m3 h hh).2 rfl
  refine ⟨⟨G, ?_, gs, g0, g6, g12, g13⟩, ⟨R, (heap_alloc_old _ _ (by simp)).trans (heap_alloc_new wD _), r0⟩, ⟨_, (old _ (by omega)).trans hF, hA⟩, ⟨M, (old _ (by omega)).trans (hM.trans m1), m2, fun i hi => (m3 i hi).1, a3, a4, a5, a8, a9⟩, ⟨L, (old _ l2).trans k1, k2, k3⟩, ?_, hh⟩
  · have := heap_alloc_new (wD.alloc (.cells R 71)) (.cells G 64)
    simpa using this
  · refine ⟨?_, ?_, ?_, ?_, ?_, ?_, ?_, ?_, ?_, ?_⟩ <;> omega

/-- The state that the law begins with. -/
def s0 (f : Nat → Nat → Int) (term sp : Int) : St := { ex := fun i => f i 3, head := term, spare := sp, last := 0, kept := false, nw := 0, wf := fun _ => 0 }
theorem s0_ok (f : Nat → Nat → Int) (m : Nat) (seq : Nat → Int) (term sp : Int) : StOk f m seq 0 (s0 f term sp) := ⟨fun h => by simp [s0] at h, fun a _ _ => rfl⟩
theorem s0_real (f : Nat → Nat → Int) (seq : Nat → Int) (term sp : Int) : real f seq 0 (s0 f term sp) = f ∧ headOf seq 0 (s0 f term sp) = seq 0 := by
  refine ⟨?_, by simp [headOf, s0]⟩
  funext i j
  by_cases hj : j = 3
  · subst hj; simp [real, s0]
  · simp [real, hj]
def sB (T : Nat → Int) (f : Nat → Nat → Int) (h : Nat) (fr pu re : Bool) (ho hoT term sp : Int) : St := st2 T ho hoT (st1 T h fr pu re (s0 f term sp))
theorem st1_nw {T : Nat → Int} {h : Nat} {fr pu re : Bool} {s : St} (h0 : s.nw = 0) : (st1 T h fr pu re s).nw ≤ 1 := by
  unfold st1
  split
  · show s.nw + 1 ≤ 1; omega
  · omega
theorem sB_facts (T : Nat → Int) (f : Nat → Nat → Int) (h : Nat) (fr pu re : Bool) (ho hoT term sp : Int) (m : Nat) (seq : Nat → Int) : (sB T f h fr pu re ho hoT term sp).kept = false ∧ (sB T f h fr pu re ho hoT term sp).spare = sp ∧ (sB T f h fr pu re ho hoT term sp).ex = (fun i => f i 3) ∧ (sB T f h fr pu re ho hoT term sp).head = term ∧ (sB T f h fr pu re ho hoT term sp).nw ≤ 2 ∧ StOk f m seq 0 (sB T f h fr pu re ho hoT term sp) := by
  obtain ⟨a1, a2, a3, a4, a5⟩ := st1_facts T h fr pu re (s0 f term sp)
  obtain ⟨b1, b2, b3, b4, b5⟩ := st2_facts T ho hoT (st1 T h fr pu re (s0 f term sp))
  refine ⟨b1.trans a1, b2.trans a2, b3.trans a3, b5.trans a5, st2_nw (st1_nw rfl), ?_⟩
  refine ⟨fun hk => ?_, fun a _ _ => ?_⟩
  · have : (sB T f h fr pu re ho hoT term sp).kept = false := b1.trans a1
    rw [this] at hk; cases hk
  · have : (sB T f h fr pu re ho hoT term sp).ex = (fun i => f i 3) := b3.trans a3
    rw [this]
theorem runs_head {T : Nat → Int} {f : Nat → Nat → Int} {seq : Nat → Int} {s : St} (h0 : s.kept = false) : ∀ k, (runs T f seq s k).kept = false → (runs T f seq s k).head = s.head
  | 0, _ => rfl
  | k + 1, hk => by
    show (stp T f (seq k).toNat (runs T f seq s k)).head = _
    change (stp T f (seq k).toNat (runs T f seq s k)).kept = false at hk
    have ih := runs_head (T := T) (f := f) (seq := seq) h0 k
    unfold stp at hk ⊢
    split at hk
    · cases hk
    · rename_i hq
      rw [if_neg hq]
      exact ih hk
theorem TriesAt.at {w : World} {a : Option Addr} {n : Nat} {T : Nat → Int} (h : TriesAt w a n T) {i : Nat} (hi : i < n) : ∃ b off, a = some ⟨b, off, none⟩ ∧ w.cell? ⟨b, off + i, none⟩ = some (.int .i32 (T i)) := by
  obtain ⟨b, off, e, _, hc⟩ := h (by omega)
  exact ⟨b, off, e, hc i hi⟩
end Go.Proofs.Qxb6614451a
