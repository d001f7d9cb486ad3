/- The plain fold of the third law, and the memory of its graph. -/
import Derived.Test.Qxb6614451aW7
namespace Go.Proofs.Qxb6614451a
open Go.RowKit

/-- What the third law reckons, entry by entry of the chain. -/
structure St where
  ex : Nat → Int
  head : Int
  spare : Int
  last : Nat
  kept : Bool
  nw : Nat
  wf : Nat → Int

def stp (T : Nat → Int) (f : Nat → Nat → Int) (x : Nat) (s : St) : St :=
  if f x 1 = T (f x 0).toNat then { ex := if s.kept then upd s.ex s.last x else s.ex, head := if s.kept then s.head else x, spare := s.spare, last := x, kept := true, nw := s.nw + 1, wf := upd s.wf s.nw (f x 0) }
  else { ex := upd s.ex x s.spare, head := s.head, spare := x, last := s.last, kept := s.kept, nw := s.nw, wf := s.wf }

def runs (T : Nat → Int) (f : Nat → Nat → Int) (seq : Nat → Int) (s : St) : Nat → St
  | 0 => s
  | k + 1 => stp T f (seq k).toNat (runs T f seq s k)

/-- The chain: m entries, then a number below 0. -/
structure Chain (f : Nat → Nat → Int) (n nl m : Nat) (seq : Nat → Int) : Prop where
  rng : ∀ k, k < m → 0 ≤ seq k ∧ seq k < nl
  inj : ∀ a b, a < m → b < m → seq a = seq b → a = b
  fin : seq m < 0
  nxt : ∀ k, k < m → f (seq k).toNat 3 = seq (k + 1)
  crg : ∀ k, k < m → 0 ≤ f (seq k).toNat 0 ∧ f (seq k).toNat 0 < n

/-- The state behind k entries. -/
structure StOk (f : Nat → Nat → Int) (m : Nat) (seq : Nat → Int) (k : Nat) (s : St) : Prop where
  old : s.kept = true → ∃ a, a < k ∧ (s.last : Int) = seq a
  new : ∀ a, k ≤ a → a < m → s.ex (seq a).toNat = f (seq a).toNat 3

theorem StOk.next {T : Nat → Int} {f : Nat → Nat → Int} {n nl m : Nat} {seq : Nat → Int} {k : Nat} {s : St} (hc : Chain f n nl m seq) (h : StOk f m seq k s) (hk : k < m) : StOk f m seq (k + 1) (stp T f (seq k).toNat s) := by
  have h0 := hc.rng k hk
  unfold stp
  split
  · refine ⟨fun _ => ⟨k, by omega, by simp; omega⟩, fun a h1 h2 => ?_⟩
    have h3 := hc.rng a h2
    cases hkp : s.kept with
    | false => simp; exact h.new a (by omega) h2
    | true =>
      obtain ⟨b, hb, hl⟩ := h.old hkp
      have hne : (seq a).toNat ≠ s.last := fun e => by have := hc.inj a b h2 (by omega) (by omega); omega
      simp [upd, hne]; exact h.new a (by omega) h2
  · refine ⟨fun hq => ?_, fun a h1 h2 => ?_⟩
    · obtain ⟨b, hb, hl⟩ := h.old hq
      exact ⟨b, by omega, hl⟩
    · have h3 := hc.rng a h2
      have hne : (seq a).toNat ≠ (seq k).toNat := fun e => by have := hc.inj a k h2 hk (by omega); omega
      simp [upd, hne]; exact h.new a (by omega) h2

theorem StOk.runs {T : Nat → Int} {f : Nat → Nat → Int} {n nl m : Nat} {seq : Nat → Int} {s : St} (hc : Chain f n nl m seq) (h : StOk f m seq 0 s) : ∀ k, k ≤ m → StOk f m seq k (runs T f seq s k)
  | 0, _ => h
  | k + 1, hk => StOk.next hc (StOk.runs hc h k (by omega)) (by omega)

/-- What the entries hold while the chain is being read. -/
def real (f : Nat → Nat → Int) (seq : Nat → Int) (k : Nat) (s : St) : Nat → Nat → Int := fun i j => if j = 3 then (if s.kept = true ∧ i = s.last then seq k else s.ex i) else f i j
def headOf (seq : Nat → Int) (k : Nat) (s : St) : Int := if s.kept = true then s.head else seq k

theorem real_cur {f : Nat → Nat → Int} {n nl m : Nat} {seq : Nat → Int} {k : Nat} {s : St} (hc : Chain f n nl m seq) (h : StOk f m seq k s) (hk : k < m) : real f seq k s (seq k).toNat 3 = seq (k + 1) ∧ (s.kept = true → s.last ≠ (seq k).toNat) := by
  have h0 := hc.rng k hk
  have hne : s.kept = true → s.last ≠ (seq k).toNat := fun hq e => by
    obtain ⟨b, hb, hl⟩ := h.old hq
    have := hc.inj b k (by omega) hk (by omega)
    omega
  refine ⟨?_, hne⟩
  have : ¬ (s.kept = true ∧ (seq k).toNat = s.last) := fun ⟨h1, h2⟩ => hne h1 h2.symm
  simp only [real, this, if_true, if_false]
  rw [h.new k (by omega) hk, hc.nxt k hk]

theorem real_live {T : Nat → Int} {f : Nat → Nat → Int} {n nl m : Nat} {seq : Nat → Int} {k : Nat} {s : St} (hc : Chain f n nl m seq) (h : StOk f m seq k s) (hk : k < m) (hl : f (seq k).toNat 1 = T (f (seq k).toNat 0).toNat) :
    real f seq (k + 1) (stp T f (seq k).toNat s) = real f seq k s ∧ headOf seq (k + 1) (stp T f (seq k).toNat s) = headOf seq k s := by
  have h0 := hc.rng k hk
  obtain ⟨hcur, hne⟩ := real_cur hc h hk
  unfold stp
  rw [if_pos hl]
  refine ⟨?_, ?_⟩
  · funext i j
    by_cases hj : j = 3
    · subst hj
      by_cases hi : i = (seq k).toNat
      · subst hi; rw [hcur]; simp [real]
      · cases hkp : s.kept with
        | false => simp [real, hi, hkp]
        | true =>
          by_cases hil : i = s.last
          · subst hil; simp [real, hi, hkp, upd]; omega
          · simp [real, hi, hkp, upd, hil]
    · simp [real, hj]
  · cases hkp : s.kept with
    | false => simp [headOf, hkp]; omega
    | true => simp [headOf, hkp]

theorem real_stale {T : Nat → Int} {f : Nat → Nat → Int} {seq : Nat → Int} {k : Nat} {s : St} (hne : s.kept = true → s.last ≠ (seq k).toNat) (hl : ¬ f (seq k).toNat 1 = T (f (seq k).toNat 0).toNat) :
    (s.kept = true → real f seq (k + 1) (stp T f (seq k).toNat s) = updN (updN (real f seq k s) s.last (seq (k + 1))) (seq k).toNat s.spare) ∧
    (s.kept = false → real f seq (k + 1) (stp T f (seq k).toNat s) = updN (real f seq k s) (seq k).toNat s.spare) := by
  unfold stp
  rw [if_neg hl]
  refine ⟨fun hkp => ?_, fun hkp => ?_⟩
  · have hne' := hne hkp
    funext i j
    by_cases hj : j = 3
    · subst hj
      by_cases hi : i = (seq k).toNat
      · subst hi; simp [real, updN, upd, hkp, Ne.symm hne']
      · by_cases hil : i = s.last
        · subst hil; simp [real, updN, hkp, hi]
        · simp [real, updN, upd, hkp, hi, hil]
    · simp [real, updN, hj]
  · funext i j
    by_cases hj : j = 3
    · subst hj
      by_cases hi : i = (seq k).toNat
      · subst hi; simp [real, updN, upd, hkp]
      · simp [real, updN, upd, hkp, hi]
    · simp [real, updN, hj]

/-- The graph of the third law: its own block g, the part bp, the freed bf, the members bm, the links bL. -/
structure G5 (w : World) (g bp bf bm bL n nl h : Nat) (T : Nat → Int) (fr pu re : Bool) (ho hoT hd : Int) (f : Nat → Nat → Int) (sp : Int) : Prop where
  hg : ∃ C : Array Value, w.heap[g]? = some (.cells C 64 (0, 0)) ∧ C.size = 23 ∧ C[0]? = some (.pointer (some ⟨bp, 0, none⟩)) ∧ C[6]? = some (.slice (some ⟨bm, 0, none⟩) n n) ∧ C[12]? = some (.slice (some ⟨bL, 0, none⟩) nl nl) ∧ C[13]? = some (.int .i32 sp)
  hp : ∃ R : Array Value, w.heap[bp]? = some (.cells R 71 (0, 0)) ∧ R[0]? = some (.slice (some ⟨bf, 0, none⟩) n n)
  hf : ∃ F : Array Value, w.heap[bf]? = some (.cells F 4 (0, 0)) ∧ F[h]? = some (.bool fr)
  hm : ∃ M : Array Value, w.heap[bm]? = some (.cells M 42 (0, 0)) ∧ M.size = n * 11 ∧ (∀ i, i < n → M[i * 11 + 1]? = some (.int .i32 (T i))) ∧ M[h * 11 + 3]? = some (.int .i32 ho) ∧ M[h * 11 + 4]? = some (.int .i32 hoT) ∧ M[h * 11 + 5]? = some (.int .i32 hd) ∧ M[h * 11 + 8]? = some (.bool pu) ∧ M[h * 11 + 9]? = some (.bool re)
  hL : ∃ L : Array Value, w.heap[bL]? = some (.cells L 47 (0, 0)) ∧ L.size = nl * 4 ∧ ∀ i j, i < nl → j < 4 → L[i * 4 + j]? = some (.int .i32 (f i j))
  ne : g ≠ bp ∧ g ≠ bf ∧ g ≠ bm ∧ g ≠ bL ∧ bp ≠ bf ∧ bp ≠ bm ∧ bp ≠ bL ∧ bf ≠ bm ∧ bf ≠ bL ∧ bm ≠ bL
  hn : h < n

section
variable {w w' : World} {g bp bf bm bL n nl h : Nat} {T : Nat → Int} {fr pu re : Bool} {ho hoT hd : Int} {f : Nat → Nat → Int} {sp : Int}

theorem G5.same (q : G5 w g bp bf bm bL n nl h T fr pu re ho hoT hd f sp) (s1 : w'.heap[g]? = w.heap[g]?) (s2 : w'.heap[bp]? = w.heap[bp]?) (s3 : w'.heap[bf]? = w.heap[bf]?) (s4 : w'.heap[bm]? = w.heap[bm]?) (s5 : w'.heap[bL]? = w.heap[bL]?) : G5 w' g bp bf bm bL n nl h T fr pu re ho hoT hd f sp := by
  obtain ⟨⟨C, c1, c2⟩, ⟨R, r1, r2⟩, ⟨F, f1, f2⟩, ⟨M, m1, m2⟩, ⟨L, l1, l2⟩, ne, hn⟩ := q
  exact ⟨⟨C, s1.trans c1, c2⟩, ⟨R, s2.trans r1, r2⟩, ⟨F, s3.trans f1, f2⟩, ⟨M, s4.trans m1, m2⟩, ⟨L, s5.trans l1, l2⟩, ne, hn⟩
theorem G5.lts (q : G5 w g bp bf bm bL n nl h T fr pu re ho hoT hd f sp) : g < w.heap.size ∧ bp < w.heap.size ∧ bf < w.heap.size ∧ bm < w.heap.size ∧ bL < w.heap.size := by
  obtain ⟨⟨C, c1, c2⟩, ⟨R, r1, r2⟩, ⟨F, f1, f2⟩, ⟨M, m1, m2⟩, ⟨L, l1, l2⟩, ne, hn⟩ := q
  exact ⟨lt_of_heap c1, lt_of_heap r1, lt_of_heap f1, lt_of_heap m1, lt_of_heap l1⟩
theorem G5.later (q : G5 w g bp bf bm bL n nl h T fr pu re ho hoT hd f sp) (hb : Below w.heap.size w w') : G5 w' g bp bf bm bL n nl h T fr pu re ho hoT hd f sp := by
  obtain ⟨t1, t2, t3, t4, t5⟩ := q.lts
  exact q.same (hb.block _ t1) (hb.block _ t2) (hb.block _ t3) (hb.block _ t4) (hb.block _ t5)
theorem G5.far (q : G5 w g bp bf bm bL n nl h T fr pu re ho hoT hd f sp) {a : Addr} (h1 : a.block ≠ g) (h2 : a.block ≠ bp) (h3 : a.block ≠ bf) (h4 : a.block ≠ bm) (h5 : a.block ≠ bL) (u : Value) : G5 (w.setCell a u) g bp bf bm bL n nl h T fr pu re ho hoT hd f sp :=
  q.same (heap_setCell_other _ _ _ _ (Ne.symm h1)) (heap_setCell_other _ _ _ _ (Ne.symm h2)) (heap_setCell_other _ _ _ _ (Ne.symm h3)) (heap_setCell_other _ _ _ _ (Ne.symm h4)) (heap_setCell_other _ _ _ _ (Ne.symm h5))
theorem G5.setSpare (q : G5 w g bp bf bm bL n nl h T fr pu re ho hoT hd f sp) (x : Int) : G5 (w.setCell ⟨g, 13, none⟩ (.int .i32 x)) g bp bf bm bL n nl h T fr pu re ho hoT hd f x := by
  obtain ⟨⟨C, c1, c2, c3, c4, c5, c6⟩, ⟨R, r1, r2⟩, ⟨F, f1, f2⟩, ⟨M, m1, m2⟩, ⟨L, l1, l2⟩, ne, hn⟩ := q
  obtain ⟨n1, n2, n3, n4, n5, n6, n7, n8, n9, n10⟩ := ne
  refine ⟨⟨_, heap_setCell_same w g 13 C 64 _ c1, by simpa using c2, ?_, ?_, ?_, by simp [c2]⟩, ⟨R, (heap_setCell_other _ _ _ _ (Ne.symm n1)).trans r1, r2⟩, ⟨F, (heap_setCell_other _ _ _ _ (Ne.symm n2)).trans f1, f2⟩, ⟨M, (heap_setCell_other _ _ _ _ (Ne.symm n3)).trans m1, m2⟩, ⟨L, (heap_setCell_other _ _ _ _ (Ne.symm n4)).trans l1, l2⟩, ⟨n1, n2, n3, n4, n5, n6, n7, n8, n9, n10⟩, hn⟩
  · rw [Array.getElem?_setIfInBounds_ne (by omega)]; exact c3
  · rw [Array.getElem?_setIfInBounds_ne (by omega)]; exact c4
  · rw [Array.getElem?_setIfInBounds_ne (by omega)]; exact c5
theorem G5.setHead (q : G5 w g bp bf bm bL n nl h T fr pu re ho hoT hd f sp) (x : Int) : G5 (w.setCell ⟨bm, h * 11 + 5, none⟩ (.int .i32 x)) g bp bf bm bL n nl h T fr pu re ho hoT x f sp := by
  obtain ⟨⟨C, c1, c2⟩, ⟨R, r1, r2⟩, ⟨F, f1, f2⟩, ⟨M, m1, m2, m3, m4, m5, m6, m7, m8⟩, ⟨L, l1, l2⟩, ne, hn⟩ := q
  obtain ⟨n1, n2, n3, n4, n5, n6, n7, n8, n9, n10⟩ := ne
  refine ⟨⟨C, (heap_setCell_other _ _ _ _ n3).trans c1, c2⟩, ⟨R, (heap_setCell_other _ _ _ _ n6).trans r1, r2⟩, ⟨F, (heap_setCell_other _ _ _ _ n8).trans f1, f2⟩, ⟨_, heap_setCell_same w bm _ M 42 _ m1, by simpa using m2, fun i hi => ?_, ?_, ?_, ?_, ?_, ?_⟩, ⟨L, (heap_setCell_other _ _ _ _ (Ne.symm n10)).trans l1, l2⟩, ⟨n1, n2, n3, n4, n5, n6, n7, n8, n9, n10⟩, hn⟩
  · rw [Array.getElem?_setIfInBounds_ne (by omega)]; exact m3 i hi
  · rw [Array.getElem?_setIfInBounds_ne (by omega)]; exact m4
  · rw [Array.getElem?_setIfInBounds_ne (by omega)]; exact m5
  · have : h * 11 + 5 < M.size := by omega
    simp [this]
  · rw [Array.getElem?_setIfInBounds_ne (by omega)]; exact m7
  · rw [Array.getElem?_setIfInBounds_ne (by omega)]; exact m8
theorem G5.setNext (q : G5 w g bp bf bm bL n nl h T fr pu re ho hoT hd f sp) {i : Nat} (hi : i < nl) (x : Int) : G5 (w.setCell ⟨bL, i * 4 + 3, none⟩ (.int .i32 x)) g bp bf bm bL n nl h T fr pu re ho hoT hd (updN f i x) sp := by
  obtain ⟨⟨C, c1, c2⟩, ⟨R, r1, r2⟩, ⟨F, f1, f2⟩, ⟨M, m1, m2⟩, ⟨L, l1, l2, l3⟩, ne, hn⟩ := q
  obtain ⟨n1, n2, n3, n4, n5, n6, n7, n8, n9, n10⟩ := ne
  refine ⟨⟨C, (heap_setCell_other _ _ _ _ n4).trans c1, c2⟩, ⟨R, (heap_setCell_other _ _ _ _ n7).trans r1, r2⟩, ⟨F, (heap_setCell_other _ _ _ _ n9).trans f1, f2⟩, ⟨M, (heap_setCell_other _ _ _ _ n10).trans m1, m2⟩, ⟨_, heap_setCell_same w bL _ L 47 _ l1, by simpa using l2, fun a j ha hj => ?_⟩, ⟨n1, n2, n3, n4, n5, n6, n7, n8, n9, n10⟩, hn⟩
  by_cases he : a = i ∧ j = 3
  · obtain ⟨rfl, rfl⟩ := he
    have : a * 4 + 3 < L.size := by omega
    simp [this, updN]
  · rw [Array.getElem?_setIfInBounds_ne (by omega), l3 a j ha hj]; simp [updN, he]
theorem G5.g0 (q : G5 w g bp bf bm bL n nl h T fr pu re ho hoT hd f sp) : w.cell? ⟨g, 0, none⟩ = some (.pointer (some ⟨bp, 0, none⟩)) ∧ w.cell? ⟨g, 6, none⟩ = some (.slice (some ⟨bm, 0, none⟩) n n) ∧ w.cell? ⟨g, 12, none⟩ = some (.slice (some ⟨bL, 0, none⟩) nl nl) ∧ w.cell? ⟨g, 13, none⟩ = some (.int .i32 sp) ∧ w.frozen? ⟨g, 13, none⟩ = false := by
  obtain ⟨C, c1, c2, c3, c4, c5, c6⟩ := q.hg
  exact ⟨(cellC c1 0).trans c3, (cellC c1 6).trans c4, (cellC c1 12).trans c5, (cellC c1 13).trans c6, frzC c1 13⟩
theorem G5.p0 (q : G5 w g bp bf bm bL n nl h T fr pu re ho hoT hd f sp) : w.cell? ⟨bp, 0, none⟩ = some (.slice (some ⟨bf, 0, none⟩) n n) ∧ w.cell? ⟨bf, h, none⟩ = some (.bool fr) := by
  obtain ⟨R, r1, r2⟩ := q.hp
  obtain ⟨F, f1, f2⟩ := q.hf
  exact ⟨(cellC r1 0).trans r2, (cellC f1 h).trans f2⟩
theorem G5.t (q : G5 w g bp bf bm bL n nl h T fr pu re ho hoT hd f sp) {i : Nat} (hi : i < n) : w.cell? ⟨bm, i * 11 + 1, none⟩ = some (.int .i32 (T i)) := by
  obtain ⟨M, m1, m2, m3, _⟩ := q.hm
  exact (cellC m1 _).trans (m3 i hi)
theorem G5.mem (q : G5 w g bp bf bm bL n nl h T fr pu re ho hoT hd f sp) : w.cell? ⟨bm, h * 11 + 3, none⟩ = some (.int .i32 ho) ∧ w.cell? ⟨bm, h * 11 + 4, none⟩ = some (.int .i32 hoT) ∧ w.cell? ⟨bm, h * 11 + 5, none⟩ = some (.int .i32 hd) ∧ w.cell? ⟨bm, h * 11 + 8, none⟩ = some (.bool pu) ∧ w.cell? ⟨bm, h * 11 + 9, none⟩ = some (.bool re) ∧ w.frozen? ⟨bm, h * 11 + 5, none⟩ = false := by
  obtain ⟨M, m1, m2, m3, m4, m5, m6, m7, m8⟩ := q.hm
  exact ⟨(cellC m1 _).trans m4, (cellC m1 _).trans m5, (cellC m1 _).trans m6, (cellC m1 _).trans m7, (cellC m1 _).trans m8, frzC m1 _⟩
theorem G5.l (q : G5 w g bp bf bm bL n nl h T fr pu re ho hoT hd f sp) {i j : Nat} (hi : i < nl) (hj : j < 4) : w.cell? ⟨bL, i * 4 + j, none⟩ = some (.int .i32 (f i j)) := by
  obtain ⟨L, l1, l2, l3⟩ := q.hL
  exact (cellC l1 _).trans (l3 i j hi hj)
theorem G5.lf (q : G5 w g bp bf bm bL n nl h T fr pu re ho hoT hd f sp) (k : Nat) : w.frozen? ⟨bL, k, none⟩ = false := by
  obtain ⟨L, l1, l2, l3⟩ := q.hL
  exact frzC l1 _
end
end Go.Proofs.Qxb6614451a
