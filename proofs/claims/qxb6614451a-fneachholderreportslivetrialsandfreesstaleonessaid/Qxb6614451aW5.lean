/- The memory and the plain side of the second law. -/
import Derived.Test.Qxb6614451aW3
namespace Go.Proofs.Qxb6614451a
open Go.RowKit

theorem Try.underlying34 : Try.prog.underlying 34 = some (.slice 4) := by kernel_rfl
theorem Try.info4 : (Try.prog.info? 4).map (fun i => (i.zero, i.size, i.bytes)) = some (some (.bool false), 1, 1) := by kernel_rfl

def updB (h : Nat → Bool) (k : Nat) (x : Bool) : Nat → Bool := fun i => if i = k then x else h i

/-- A row of bool, the call's own. -/
def RowB (w : World) (b n : Nat) (h : Nat → Bool) : Prop := ∃ xs, w.ownsRow b 4 1 (.slice (some ⟨b, 0, none⟩) n n) n xs ∧ ∀ k, k < n → xs[k]? = some (.bool (h k))
theorem RowB.cell {w : World} {b n : Nat} {h : Nat → Bool} (r : RowB w b n h) {k : Nat} (hk : k < n) : w.cell? ⟨b, k, none⟩ = some (.bool (h k)) := by
  obtain ⟨xs, ho, hx⟩ := r
  rw [ho.cellAt k (by omega)]; exact hx k hk
theorem RowB.frozen {w : World} {b n : Nat} {h : Nat → Bool} (r : RowB w b n h) (k : Nat) : w.frozen? ⟨b, k, none⟩ = false := by
  obtain ⟨xs, ho, hx⟩ := r
  exact ho.frozenAt k
theorem RowB.same {w w' : World} {b n : Nat} {h : Nat → Bool} (r : RowB w b n h) (hs : w'.heap[b]? = w.heap[b]?) : RowB w' b n h := by
  obtain ⟨xs, ho, hx⟩ := r
  exact ⟨xs, ownsRow_same ho (fun g hg => by simp [Value.ownBlock] at hg; subst hg; exact hs), hx⟩
theorem RowB.lt {w : World} {b n : Nat} {h : Nat → Bool} (r : RowB w b n h) : b < w.heap.size := by
  obtain ⟨xs, ho, hx⟩ := r
  exact (ho.lt b rfl).2
theorem RowB.off {w w' : World} {b n g : Nat} {o : Option Nat} {h : Nat → Bool} (r : RowB w b n h) (hf : Off w w' g o) (h1 : b ≠ g) (h2 : some b ≠ o) : RowB w' b n h := r.same (hf.block b r.lt h1 h2)
theorem RowB.later {w w' : World} {b n : Nat} {h : Nat → Bool} (r : RowB w b n h) (hf : Below w.heap.size w w') : RowB w' b n h := r.same (hf.block b r.lt)
theorem RowB.alloc {w : World} {b n : Nat} {h : Nat → Bool} (r : RowB w b n h) (o : Obj) : RowB (w.alloc o) b n h := r.later ((Below.refl _ _).alloc (Nat.le_refl _) _)
theorem RowB.far {w : World} {b n : Nat} {h : Nat → Bool} (r : RowB w b n h) {a : Addr} (ha : b ≠ a.block) (u : Value) : RowB (w.setCell a u) b n h := r.same (heap_setCell_other w a b u ha)
theorem RowB.set {w : World} {b n : Nat} {h : Nat → Bool} (r : RowB w b n h) (k : Nat) (x : Bool) : RowB (w.setCell ⟨b, k, none⟩ (.bool x)) b n (updB h k x) := by
  obtain ⟨xs, ho, hx⟩ := r
  refine ⟨_, (ho.stored k (.bool x)).1, fun i hi => ?_⟩
  have hl : xs.length = n := by simpa using ho.1
  by_cases hik : i = k
  · subst hik
    simp [updB, hl, hi]
  · rw [List.getElem?_set_ne (by omega), hx i hi]; simp [updB, hik]
theorem rowB_made (w : World) (n : Nat) (hn : n ≤ maxLen) : RowB (w.alloc (.cells (madeCells #[.bool false] (n * 1)) 4)) w.heap.size n (fun _ => false) := by
  refine ⟨_, World.ownsRow_lit w (madeCells #[.bool false] (n * 1)) n (Nat.le_refl _) hn (by simp [size_madeCells]), fun k hk => ?_⟩
  rw [toList_madeCells_one]; simp [hk]

/-- What the round of the second law owns. -/
structure Mem4 (w : World) (H n nl : Nat) (lf : Nat → Int) (lv : Value) (cnt : Nat) (f : Nat → Nat → Int) (s : Int) (bl : Nat → Bool) (hx : Nat → Int) : Prop where
  gr : Graph w H (H + 4) lv cnt f s
  rb : RowB w (H + 1) n bl
  rx : Row w (H + 2) n n hx
  rl : Row w (H + 3) n nl lf

theorem mem4_start (w : World) (C : Array Value) (n : Nat) (hn : n ≤ maxLen) (hC : C.size = 23 ∧ C[12]? = some (.slice none 0 0) ∧ C[13]? = some (.int .i32 (-1))) :
    Mem4 ((((w.alloc (.cells C 64)).alloc (.cells (madeCells #[.bool false] (n * 1)) 4)).alloc (.cells (madeCells #[.int .i32 0] (n * 1)) 21)).alloc (.cells (madeCells #[.int .i32 0] (n * 1)) 21))
      w.heap.size n 0 (fun _ => 0) (.slice none 0 0) 0 (fun _ _ => 0) (-1) (fun _ => false) (fun _ => 0) := by
  have g0 : Head (w.alloc (.cells C 64)) w.heap.size (.slice none 0 0) (-1) := ⟨C, heap_alloc_new w _, hC⟩
  refine ⟨⟨?_, ⟨[], World.ownsRow_nil _ _ _ _, fun i j hi => by omega⟩, by omega, by simp⟩, ?_, ?_, ?_⟩
  · refine g0.same ?_
    rw [heap_alloc_old _ _ (by simp; omega), heap_alloc_old _ _ (by simp; omega), heap_alloc_old _ _ (by simp)]
  · have := rowB_made (w.alloc (.cells C 64)) n hn
    simp only [World.size_alloc] at this
    exact (this.alloc _).alloc _
  · have := row_made ((w.alloc (.cells C 64)).alloc (.cells (madeCells #[.bool false] (n * 1)) 4)) n hn
    simp only [World.size_alloc] at this
    exact this.alloc _
  · have := row_empty (((w.alloc (.cells C 64)).alloc (.cells (madeCells #[.bool false] (n * 1)) 4)).alloc (.cells (madeCells #[.int .i32 0] (n * 1)) 21)) n hn
    simp only [World.size_alloc] at this
    exact this

/-- The plain side: the freed are a ghost. -/
structure Inv4 (cnt : Nat) (s : Int) (f : Nat → Nat → Int) (nl : Nat) (lf : Nat → Int) (bl : Nat → Bool) (hx : Nat → Int) (n : Nat) : Prop where
  inv : ∃ nf ff, cnt = nf + nl ∧ Inv s f nf ff nl lf
  lv : ∀ i, i < n → (∀ a, a < nl → lf a ≠ i) → bl i = false
  nx : ∀ a, a < nl → hx (lf a).toNat = f (lf a).toNat 3

theorem Inv4.start (f : Nat → Nat → Int) (lf hx : Nat → Int) (n : Nat) : Inv4 0 (-1) f 0 lf (fun _ => false) hx n :=
  ⟨⟨0, fun _ => 0, rfl, Inv.start _ _ _⟩, fun _ _ _ => rfl, fun a h => by omega⟩

theorem Inv4.lt {cnt : Nat} {s : Int} {f : Nat → Nat → Int} {nl : Nat} {lf : Nat → Int} {bl : Nat → Bool} {hx : Nat → Int} {n : Nat} (h : Inv4 cnt s f nl lf bl hx n) : s < cnt ∧ nl ≤ cnt := by
  obtain ⟨nf, ff, rfl, hi⟩ := h.inv
  exact ⟨hi.lt, by omega⟩

theorem Inv4.link {cnt : Nat} {s : Int} {f : Nat → Nat → Int} {nl : Nat} {lf : Nat → Int} {bl : Nat → Bool} {hx : Nat → Int} {n : Nat} (h : Inv4 cnt s f nl lf bl hx n) {k n' : Nat} {s' : Int}
    (hr : 0 ≤ s ∧ k = s.toNat ∧ n' = cnt ∧ s' = f k 3 ∨ s < 0 ∧ k = cnt ∧ n' = cnt + 1 ∧ s' = s) (c t m x : Int) :
    k < n' ∧ (∀ a, a < nl → lf a ≠ k) ∧ (cnt < nl + 1 → n' = nl + 1) ∧ (nl + 1 ≤ cnt → n' = cnt) ∧ nl + 1 ≤ n' ∧ n' ≤ cnt + 1 ∧ Inv4 n' s' (updE f k c t m x) (nl + 1) (upd lf nl k) (updB bl k true) (upd hx k x) n := by
  obtain ⟨nf, ff, rfl, hi⟩ := h.inv
  have hsp := hi.sp
  have key : k < n' ∧ (∀ a, a < nl → lf a ≠ k) ∧ ((nf + nl < nl + 1 → n' = nl + 1) ∧ (nl + 1 ≤ nf + nl → n' = nf + nl)) ∧ nl + 1 ≤ n' ∧ n' ≤ nf + nl + 1 ∧ ∃ nf', n' = nf' + (nl + 1) ∧ Inv s' (updE f k c t m x) nf' ff (nl + 1) (upd lf nl k) := by
    cases nf with
    | zero =>
      simp only [if_true] at hsp
      subst hsp
      rcases hr with ⟨h1, _⟩ | ⟨_, rfl, rfl, rfl⟩
      · omega
      · refine ⟨by omega, fun a ha e => by have := hi.lr a ha; omega, ⟨by omega, by omega⟩, by omega, by omega, 0, by omega, ?_⟩
        have := hi.grow c t m x
        simpa using this
    | succ q =>
      have h0 : q + 1 ≠ 0 := by omega
      simp only [h0, if_false, Nat.add_sub_cancel] at hsp
      have h1 := hi.fr q (by omega)
      rcases hr with ⟨_, rfl, rfl, rfl⟩ | ⟨h2, _⟩
      · refine ⟨by omega, fun a ha e => hi.fl q a (by omega) ha (by omega), ⟨by omega, by omega⟩, by omega, by omega, q, by omega, hi.reuse s.toNat (by omega) c t m x⟩
      · omega
  obtain ⟨k1, k2, ⟨k3, k4⟩, k5, k6, nf', k7, k8⟩ := key
  refine ⟨k1, k2, k3, k4, k5, k6, ⟨nf', ff, k7, k8⟩, fun i hin hi2 => ?_, fun a ha => ?_⟩
  · have hik : i ≠ k := fun e => hi2 nl (by omega) (by simp [upd, e])
    have : bl i = false := h.lv i hin (fun a ha e => by
      have hq : a ≠ nl := by omega
      exact hi2 a (by omega) (by simpa [upd, hq] using e))
    simpa [updB, hik] using this
  · by_cases hq : a = nl
    · subst hq; simp [upd, updE]
    · have h1 := hi.lr a (by omega)
      have h2 : (lf a).toNat ≠ k := fun e => k2 a (by omega) (by omega)
      have := h.nx a (by omega)
      simpa [upd, updE, hq, h2] using this

theorem Inv4.free {cnt : Nat} {s : Int} {f : Nat → Nat → Int} {nl : Nat} {lf : Nat → Int} {bl : Nat → Bool} {hx : Nat → Int} {n : Nat} (h : Inv4 cnt s f (nl + 1) lf bl hx n) {j d : Nat} (hj : j < nl + 1) (hd : (d : Int) = lf j) :
    Inv4 cnt d (updN f d s) nl (upd lf j (lf nl)) (updB bl d false) hx n := by
  obtain ⟨nf, ff, rfl, hi⟩ := h.inv
  refine ⟨⟨nf + 1, upd ff nf d, by omega, hi.free j d hj hd⟩, fun i hin h2 => ?_, fun a ha => ?_⟩
  · by_cases hid : i = d
    · simp [updB, hid]
    · have : bl i = false := h.lv i hin (fun a ha e => by
        by_cases haj : a = j
        · subst haj; omega
        · by_cases han : a = nl
          · subst han
            by_cases hjn : j = a
            · omega
            · exact h2 j (by omega) (by simpa [upd] using e)
          · exact h2 a (by omega) (by simpa [upd, haj] using e))
      simpa [updB, hid] using this
  · have e : ∃ b, b < nl + 1 ∧ b ≠ j ∧ upd lf j (lf nl) a = lf b := by
      by_cases haj : a = j
      · exact ⟨nl, by omega, by omega, by simp [upd, haj]⟩
      · exact ⟨a, by omega, haj, by simp [upd, haj]⟩
    obtain ⟨b, hb, hbj, e⟩ := e
    rw [e]
    have h1 := hi.lr b hb
    have h2 : (lf b).toNat ≠ d := fun e => hbj (hi.li b j hb hj (by omega))
    have := h.nx b hb
    simpa [updN, h2] using this
end Go.Proofs.Qxb6614451a
