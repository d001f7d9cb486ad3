/- Rows of int32 that the law owns, and the graph of entries. -/
import Derived.Test.Qxb6614451aRows
import Derived.WalkKit
import Derived.BigQuiet
import Derived.Deep.AppendLies
import Derived.Deep.DeepCutAuto
import Derived.Deep.Draws
import Derived.Deep.RegionHeld3
import Derived.Deep.RegionLaw
import Derived.Laws.OwnMore
namespace Go.Proofs.Qxb6614451a
open Go.RowKit

theorem Try.underlying26 : Try.prog.underlying 26 = some (.slice 21) := by kernel_rfl
theorem Try.underlying44 : Try.prog.underlying 44 = some (.slice 47) := by kernel_rfl
theorem Try.info21 : (Try.prog.info? 21).map (fun i => (i.zero, i.size, i.bytes)) = some (some (.int .i32 0), 1, 4) := by kernel_rfl
theorem Try.info47 : (Try.prog.info? 47).map (fun i => (i.zero, i.size, i.bytes)) = some (some (.agg #[.int .i32 0, .int .i32 0, .int .i32 0, .int .i32 0]), 4, 16) := by kernel_rfl

def upd (h : Nat → Int) (k : Nat) (x : Int) : Nat → Int := fun i => if i = k then x else h i
def updE (f : Nat → Nat → Int) (k : Nat) (c t m x : Int) : Nat → Nat → Int := fun i j => if i = k then (if j = 0 then c else if j = 1 then t else if j = 2 then m else x) else f i j
def updN (f : Nat → Nat → Int) (k : Nat) (x : Int) : Nat → Nat → Int := fun i j => if i = k ∧ j = 3 then x else f i j

/-- Outside block g and the block o, w' is as w was. -/
structure Off (w w' : World) (g : Nat) (o : Option Nat) : Prop where
  os : w'.os = w.os
  tape : w'.tape = w.tape
  output : w'.output = w.output
  size : w.heap.size ≤ w'.heap.size
  block : ∀ k, k < w.heap.size → k ≠ g → some k ≠ o → w'.heap[k]? = w.heap[k]?

/-- A row of int32 at the head of block b, the call's own: m elements, room for cap. -/
def Row (w : World) (b cap m : Nat) (h : Nat → Int) : Prop := ∃ xs, w.ownsRow b 21 1 (.slice (some ⟨b, 0, none⟩) m cap) m xs ∧ ∀ k, k < m → xs[k]? = some (.int .i32 (h k))

/-- The entries: n of them, fields f i j, in the slice value lv. -/
def Entries (w : World) (B : Nat) (lv : Value) (n : Nat) (f : Nat → Nat → Int) : Prop := ∃ xs, w.ownsRow B 47 4 lv n xs ∧ ∀ i j, i < n → j < 4 → xs[i * 4 + j]? = some (.int .i32 (f i j))

/-- The graph's own block. -/
def Head (w : World) (g : Nat) (lv : Value) (s : Int) : Prop := ∃ C, w.heap[g]? = some (.cells C 64 (0, 0)) ∧ C.size = 23 ∧ C[12]? = some lv ∧ C[13]? = some (.int .i32 s)

structure Graph (w : World) (g B : Nat) (lv : Value) (n : Nat) (f : Nat → Nat → Int) (s : Int) : Prop where
  head : Head w g lv s
  ents : Entries w B lv n f
  lt : g < B
  le : B ≤ w.heap.size

theorem getC {w : World} {g : Nat} {C : Array Value} {t : TypeId} (h : w.heap[g]? = some (.cells C t (0, 0))) {k : Nat} (hk : k < C.size) : ∃ x, w.cell? ⟨g, k, none⟩ = some x := ⟨C[k], by simp [World.cell?, h, hk]⟩
theorem frzC {w : World} {g : Nat} {C : Array Value} {t : TypeId} (h : w.heap[g]? = some (.cells C t (0, 0))) (k : Nat) : w.frozen? ⟨g, k, none⟩ = false := by simp [World.frozen?, h]
theorem cellC {w : World} {g : Nat} {C : Array Value} {t : TypeId} (h : w.heap[g]? = some (.cells C t (0, 0))) (k : Nat) : w.cell? ⟨g, k, none⟩ = C[k]? := by simp [World.cell?, h]

theorem lt_of_heap {w : World} {g : Nat} {o : Obj} (h : w.heap[g]? = some o) : g < w.heap.size := by
  rcases Nat.lt_or_ge g w.heap.size with hlt | hge
  · exact hlt
  · rw [Array.getElem?_eq_none hge] at h; cases h

/-! Off -/
theorem Off.refl (w : World) (g : Nat) (o : Option Nat) : Off w w g o := ⟨rfl, rfl, rfl, Nat.le_refl _, fun _ _ _ _ => rfl⟩
theorem Off.ofBelow {w w' : World} {g : Nat} {o : Option Nat} (h : Below w.heap.size w w') : Off w w' g o := ⟨h.os, h.tape, h.output, h.size, fun k hk _ _ => h.block k hk⟩
theorem Off.below {w w' : World} {g B : Nat} {o : Option Nat} (h : Off w w' g o) (hB : B ≤ g) (hg : g ≤ w.heap.size) (ho : ∀ k, o = some k → B ≤ k) : Below B w w' :=
  ⟨h.os, h.tape, h.output, h.size, fun k hk => h.block k (by omega) (by omega) (fun e => by have := ho k e.symm; omega)⟩
theorem Off.ofGrown {w w' : World} {g : Nat} {o : Option Nat} (h : w.grownBy w' o) : Off w w' g o := ⟨h.os, h.tape, h.output, h.size, fun k hk _ ho => h.block k hk ho⟩
theorem Off.setg {w w' : World} {g : Nat} {o : Option Nat} (h : Off w w' g o) (k : Nat) (u : Value) : Off w (w'.setCell ⟨g, k, none⟩ u) g o :=
  ⟨h.os, h.tape, h.output, by simpa using h.size, fun b hb h1 h2 => (heap_setCell_other w' ⟨g, k, none⟩ b u h1).trans (h.block b hb h1 h2)⟩
theorem Off.seto {w w' : World} {g l : Nat} (h : Off w w' g (some l)) (k : Nat) (u : Value) : Off w (w'.setCell ⟨l, k, none⟩ u) g (some l) :=
  ⟨h.os, h.tape, h.output, by simpa using h.size, fun b hb h1 h2 => (heap_setCell_other w' ⟨l, k, none⟩ b u (fun e => h2 (by simp [e]))).trans (h.block b hb h1 h2)⟩
theorem Off.alloc {w w' : World} {g : Nat} {o : Option Nat} (h : Off w w' g o) (x : Obj) : Off w (w'.alloc x) g o :=
  ⟨h.os, h.tape, h.output, by have := h.size; simp; omega, fun b hb h1 h2 => (heap_alloc_old w' x (by have := h.size; omega)).trans (h.block b hb h1 h2)⟩
theorem Off.trans {w w1 w2 : World} {g : Nat} {o o' : Option Nat} (h : Off w w1 g o) (h' : Off w1 w2 g o') (ho : ∀ k, o' = some k → o = some k ∨ w.heap.size ≤ k) : Off w w2 g o :=
  ⟨h'.os.trans h.os, h'.tape.trans h.tape, h'.output.trans h.output, Nat.le_trans h.size h'.size, fun k hk h1 h2 =>
    (h'.block k (by have := h.size; omega) h1 (fun e => by rcases ho k e.symm with q | q; exact h2 q.symm; omega)).trans (h.block k hk h1 h2)⟩

/-! Row -/
theorem Row.cell {w : World} {b cap m : Nat} {h : Nat → Int} (r : Row w b cap m h) {k : Nat} (hk : k < m) : w.cell? ⟨b, k, none⟩ = some (.int .i32 (h k)) := by
  obtain ⟨xs, ho, hx⟩ := r
  rw [ho.cellAt k (by omega)]; exact hx k hk
theorem Row.frozen {w : World} {b cap m : Nat} {h : Nat → Int} (r : Row w b cap m h) (k : Nat) : w.frozen? ⟨b, k, none⟩ = false := by
  obtain ⟨xs, ho, hx⟩ := r
  exact ho.frozenAt k
theorem Row.le {w : World} {b cap m : Nat} {h : Nat → Int} (r : Row w b cap m h) : m ≤ cap ∧ cap ≤ maxLen := by
  obtain ⟨xs, ho, hx⟩ := r
  rcases ho.2 with ⟨h', _⟩ | ⟨g', cap', cur, h', _, hg, h1, h2, _⟩
  · simp at h'
  · simp only [Value.slice.injEq, Option.some.injEq, Addr.mk.injEq, and_true, true_and] at h'
    obtain ⟨rfl, rfl⟩ := h'
    exact ⟨h1, h2⟩
theorem ownsRow_same {w w' : World} {base : Nat} {e : TypeId} {size : Nat} {v : Value} {n : Nat} {xs : List Value} (h : w.ownsRow base e size v n xs) (hs : ∀ g, v.ownBlock = some g → w'.heap[g]? = w.heap[g]?) : w'.ownsRow base e size v n xs := by
  refine ⟨h.1, ?_⟩
  rcases h.2 with q | ⟨g, cap, cur, hv, hb, hg, rest⟩
  · exact .inl q
  · exact .inr ⟨g, cap, cur, hv, hb, (hs g (by rw [hv]; rfl)).trans hg, rest⟩
theorem Row.same {w w' : World} {b cap m : Nat} {h : Nat → Int} (r : Row w b cap m h) (hs : w'.heap[b]? = w.heap[b]?) : Row w' b cap m h := by
  obtain ⟨xs, ho, hx⟩ := r
  exact ⟨xs, ownsRow_same ho (fun g hg => by simp [Value.ownBlock] at hg; subst hg; exact hs), hx⟩
theorem Row.lt {w : World} {b cap m : Nat} {h : Nat → Int} (r : Row w b cap m h) : b < w.heap.size := by
  obtain ⟨xs, ho, hx⟩ := r
  exact (ho.lt b rfl).2
theorem Row.off {w w' : World} {b cap m g : Nat} {o : Option Nat} {h : Nat → Int} (r : Row w b cap m h) (hf : Off w w' g o) (h1 : b ≠ g) (h2 : some b ≠ o) : Row w' b cap m h := r.same (hf.block b r.lt h1 h2)
theorem Row.later {w w' : World} {b cap m : Nat} {h : Nat → Int} (r : Row w b cap m h) (hf : Below w.heap.size w w') : Row w' b cap m h := r.same (hf.block b r.lt)
theorem Row.far {w : World} {b cap m : Nat} {h : Nat → Int} (r : Row w b cap m h) {a : Addr} (ha : b ≠ a.block) (u : Value) : Row (w.setCell a u) b cap m h := r.same (heap_setCell_other w a b u ha)
theorem Row.set {w : World} {b cap m : Nat} {h : Nat → Int} (r : Row w b cap m h) (k : Nat) (x : Int) : Row (w.setCell ⟨b, k, none⟩ (.int .i32 x)) b cap m (upd h k x) := by
  obtain ⟨xs, ho, hx⟩ := r
  refine ⟨_, (ho.stored k (.int .i32 x)).1, fun i hi => ?_⟩
  have hl : xs.length = m := by simpa using ho.1
  by_cases hik : i = k
  · subst hik
    simp [upd, hl, hi]
  · rw [List.getElem?_set_ne (by omega), hx i hi]; simp [upd, hik]
theorem Row.pop {w : World} {b cap m : Nat} {h : Nat → Int} (r : Row w b cap (m + 1) h) : Row w b cap m h := by
  obtain ⟨xs, ho, hx⟩ := r
  refine ⟨xs.take m, ⟨by have := ho.1; simp at this ⊢; omega, .inr ?_⟩, fun k hk => by rw [List.getElem?_take, if_pos hk]; exact hx k (by omega)⟩
  rcases ho.2 with ⟨h', _⟩ | ⟨g', cap', cur, h', hb, hg, h1, h2, h3, h4⟩
  · simp at h'
  · simp only [Value.slice.injEq, Option.some.injEq, Addr.mk.injEq, and_true, true_and] at h'
    obtain ⟨rfl, rfl⟩ := h'
    refine ⟨b, cap, cur, rfl, hb, hg, by omega, h2, h3, ?_⟩
    rw [← h4, List.take_take]; congr 1; omega
theorem Row.push {w : World} {b cap m : Nat} {h : Nat → Int} {xs : List Value} {x : Int} (ho : w.ownsRow b 21 1 (.slice (some ⟨b, 0, none⟩) (m + 1) cap) (m + 1) (xs ++ [.int .i32 x])) (hl : xs.length = m) (hx : ∀ k, k < m → xs[k]? = some (.int .i32 (h k))) : Row w b cap (m + 1) (upd h m x) := by
  refine ⟨_, ho, fun k hk => ?_⟩
  by_cases hkm : k = m
  · subst hkm; simp [upd, ← hl]
  · rw [List.getElem?_append_left (by omega), hx k (by omega)]; simp [upd, hkm]

/-! Head, Entries, Graph -/
theorem Head.lt {w : World} {g : Nat} {lv : Value} {s : Int} (h : Head w g lv s) : g < w.heap.size := by
  obtain ⟨C, h, _⟩ := h; exact lt_of_heap h
theorem Head.same {w w' : World} {g : Nat} {lv : Value} {s : Int} (h : Head w g lv s) (hs : w'.heap[g]? = w.heap[g]?) : Head w' g lv s := by
  obtain ⟨C, h, r⟩ := h; exact ⟨C, hs.trans h, r⟩
theorem Head.spare {w : World} {g : Nat} {lv : Value} {s : Int} (h : Head w g lv s) (s' : Int) : Head (w.setCell ⟨g, 13, none⟩ (.int .i32 s')) g lv s' := by
  obtain ⟨C, h, hs, h1, h2⟩ := h
  refine ⟨_, heap_setCell_same w g 13 C 64 _ h, by simpa using hs, ?_, ?_⟩
  · rw [Array.getElem?_setIfInBounds_ne (by omega)]; exact h1
  · simp [hs]
theorem Head.links {w : World} {g : Nat} {lv : Value} {s : Int} (h : Head w g lv s) (lv' : Value) : Head (w.setCell ⟨g, 12, none⟩ lv') g lv' s := by
  obtain ⟨C, h, hs, h1, h2⟩ := h
  refine ⟨_, heap_setCell_same w g 12 C 64 _ h, by simpa using hs, ?_, ?_⟩
  · simp [hs]
  · rw [Array.getElem?_setIfInBounds_ne (by omega)]; exact h2
theorem Head.c12 {w : World} {g : Nat} {lv : Value} {s : Int} (h : Head w g lv s) : w.cell? ⟨g, 12, none⟩ = some lv := by obtain ⟨C, h, hs, h1, h2⟩ := h; rw [cellC h]; exact h1
theorem Head.c13 {w : World} {g : Nat} {lv : Value} {s : Int} (h : Head w g lv s) : w.cell? ⟨g, 13, none⟩ = some (.int .i32 s) := by obtain ⟨C, h, hs, h1, h2⟩ := h; rw [cellC h]; exact h2
theorem Head.fz {w : World} {g : Nat} {lv : Value} {s : Int} (h : Head w g lv s) (k : Nat) : w.frozen? ⟨g, k, none⟩ = false := by obtain ⟨C, h, _⟩ := h; exact frzC h k

theorem Entries.same {w w' : World} {B : Nat} {lv : Value} {n : Nat} {f : Nat → Nat → Int} (r : Entries w B lv n f) (hs : ∀ g, lv.ownBlock = some g → w'.heap[g]? = w.heap[g]?) : Entries w' B lv n f := by
  obtain ⟨xs, ho, hx⟩ := r
  exact ⟨xs, ownsRow_same ho hs, hx⟩
theorem Entries.lt {w : World} {B : Nat} {lv : Value} {n : Nat} {f : Nat → Nat → Int} (r : Entries w B lv n f) : ∀ k, lv.ownBlock = some k → B ≤ k ∧ k < w.heap.size := by
  obtain ⟨xs, ho, hx⟩ := r
  exact ho.lt
theorem Entries.form {w : World} {B : Nat} {lv : Value} {n : Nat} {f : Nat → Nat → Int} (r : Entries w B lv n f) (hn : 0 < n) : ∃ l cap, lv = .slice (some ⟨l, 0, none⟩) n cap ∧ B ≤ l ∧ l < w.heap.size := by
  obtain ⟨xs, ho, hx⟩ := r
  exact ho.form hn
theorem Entries.shape {w : World} {B : Nat} {lv : Value} {n : Nat} {f : Nat → Nat → Int} (r : Entries w B lv n f) : ∃ a cap, lv = .slice a n cap := by
  obtain ⟨xs, ho, hx⟩ := r
  rcases ho.2 with ⟨h', h0⟩ | ⟨g', cap', cur, h', _⟩
  · subst h0; exact ⟨none, 0, h'⟩
  · exact ⟨_, _, h'⟩
theorem Entries.cell {w : World} {B l n cap : Nat} {f : Nat → Nat → Int} (r : Entries w B (.slice (some ⟨l, 0, none⟩) n cap) n f) {i j : Nat} (hi : i < n) (hj : j < 4) : w.cell? ⟨l, i * 4 + j, none⟩ = some (.int .i32 (f i j)) := by
  obtain ⟨xs, ho, hx⟩ := r
  rw [ho.cellAt (i * 4 + j) (by omega)]; exact hx i j hi hj
theorem Entries.fz {w : World} {B l n cap : Nat} {f : Nat → Nat → Int} (r : Entries w B (.slice (some ⟨l, 0, none⟩) n cap) n f) (k : Nat) : w.frozen? ⟨l, k, none⟩ = false := by
  obtain ⟨xs, ho, hx⟩ := r
  exact ho.frozenAt k
theorem Entries.set {w : World} {B l n cap : Nat} {f : Nat → Nat → Int} (r : Entries w B (.slice (some ⟨l, 0, none⟩) n cap) n f) {k m : Nat} (hk : k < n) (hm : m < 4) (x : Int) :
    Entries (w.setCell ⟨l, k * 4 + m, none⟩ (.int .i32 x)) B (.slice (some ⟨l, 0, none⟩) n cap) n (fun i j => if i = k ∧ j = m then x else f i j) := by
  obtain ⟨xs, ho, hx⟩ := r
  have hl : xs.length = n * 4 := ho.1
  refine ⟨_, (ho.stored (k * 4 + m) (.int .i32 x)).1, fun i j hi hj => ?_⟩
  by_cases hik : i = k ∧ j = m
  · obtain ⟨rfl, rfl⟩ := hik
    rw [List.getElem?_set_self (by omega)]; simp
  · rw [List.getElem?_set_ne (by omega), hx i j hi hj]; simp [hik]
theorem Entries.congr {w : World} {B : Nat} {lv : Value} {n : Nat} {f f' : Nat → Nat → Int} (r : Entries w B lv n f) (h : ∀ i j, i < n → j < 4 → f i j = f' i j) : Entries w B lv n f' := by
  obtain ⟨xs, ho, hx⟩ := r
  exact ⟨xs, ho, fun i j hi hj => by rw [← h i j hi hj]; exact hx i j hi hj⟩
theorem Entries.push {w : World} {B : Nat} {lv : Value} {n : Nat} {f : Nat → Nat → Int} {xs : List Value} {c t m x : Int} (ho : w.ownsRow B 47 4 lv (n + 1) (xs ++ [.int .i32 c, .int .i32 t, .int .i32 m, .int .i32 x])) (hl : xs.length = n * 4) (hx : ∀ i j, i < n → j < 4 → xs[i * 4 + j]? = some (.int .i32 (f i j))) : Entries w B lv (n + 1) (updE f n c t m x) := by
  refine ⟨_, ho, fun i j hi hj => ?_⟩
  by_cases hkm : i = n
  · subst hkm
    rw [List.getElem?_append_right (by omega), hl, show i * 4 + j - i * 4 = j by omega]
    have : j = 0 ∨ j = 1 ∨ j = 2 ∨ j = 3 := by omega
    rcases this with rfl | rfl | rfl | rfl <;> simp [updE]
  · rw [List.getElem?_append_left (by omega), hx i j (by omega) hj]; simp [updE, hkm]

theorem Graph.later {w w' : World} {g B : Nat} {lv : Value} {n : Nat} {f : Nat → Nat → Int} {s : Int} (h : Graph w g B lv n f s) (hb : Below w.heap.size w w') : Graph w' g B lv n f s :=
  ⟨h.head.same (hb.block g h.head.lt), h.ents.same (fun k hk => hb.block k (h.ents.lt k hk).2), h.lt, Nat.le_trans h.le hb.size⟩
/-- A store into a block below B other than g. -/
theorem Graph.far {w : World} {g B : Nat} {lv : Value} {n : Nat} {f : Nat → Nat → Int} {s : Int} (h : Graph w g B lv n f s) {a : Addr} (h1 : a.block < B) (h2 : a.block ≠ g) (u : Value) : Graph (w.setCell a u) g B lv n f s :=
  ⟨h.head.same (heap_setCell_other w a g u (fun e => h2 e.symm)), h.ents.same (fun k hk => heap_setCell_other w a k u (fun e => by have := (h.ents.lt k hk).1; omega)), h.lt, by simpa using h.le⟩
theorem Graph.grown {w w' : World} {g B b : Nat} {lv : Value} {n : Nat} {f : Nat → Nat → Int} {s : Int} (h : Graph w g B lv n f s) (hg : w.grownBy w' (some b)) (h1 : b < B) (h2 : b ≠ g) : Graph w' g B lv n f s :=
  ⟨h.head.same (hg.block g h.head.lt (fun e => h2 (by simpa using e.symm))), h.ents.same (fun k hk => hg.block k (h.ents.lt k hk).2 (fun e => by have := (h.ents.lt k hk).1; simp at e; omega)), h.lt, Nat.le_trans h.le hg.size⟩
theorem Graph.setSpare {w : World} {g B : Nat} {lv : Value} {n : Nat} {f : Nat → Nat → Int} {s : Int} (h : Graph w g B lv n f s) (s' : Int) : Graph (w.setCell ⟨g, 13, none⟩ (.int .i32 s')) g B lv n f s' :=
  ⟨h.head.spare s', h.ents.same (fun k hk => heap_setCell_other w _ k _ (fun e => by have := (h.ents.lt k hk).1; have := h.lt; simp at e; omega)), h.lt, by simpa using h.le⟩
theorem Graph.setE {w : World} {g B l n cap : Nat} {f : Nat → Nat → Int} {s : Int} (h : Graph w g B (.slice (some ⟨l, 0, none⟩) n cap) n f s) {k m : Nat} (hk : k < n) (hm : m < 4) (x : Int) : Graph (w.setCell ⟨l, k * 4 + m, none⟩ (.int .i32 x)) g B (.slice (some ⟨l, 0, none⟩) n cap) n (fun i j => if i = k ∧ j = m then x else f i j) s :=
  ⟨h.head.same (heap_setCell_other w _ g _ (fun e => by have := (h.ents.lt l rfl).1; have := h.lt; simp at e; omega)), h.ents.set hk hm x, h.lt, by simpa using h.le⟩
theorem Graph.congr {w : World} {g B : Nat} {lv : Value} {n : Nat} {f f' : Nat → Nat → Int} {s : Int} (h : Graph w g B lv n f s) (e : ∀ i j, i < n → j < 4 → f i j = f' i j) : Graph w g B lv n f' s := ⟨h.head, h.ents.congr e, h.lt, h.le⟩
theorem Graph.alloc {w : World} {g B : Nat} {lv : Value} {n : Nat} {f : Nat → Nat → Int} {s : Int} (h : Graph w g B lv n f s) (o : Obj) : Graph (w.alloc o) g B lv n f s := h.later ((Below.refl _ _).alloc (Nat.le_refl _) _)
theorem Graph.drew {w : World} {g B : Nat} {lv : Value} {n : Nat} {f : Nat → Nat → Int} {s : Int} (h : Graph w g B lv n f s) : Graph w.drew g B lv n f s := h.later (Below.refl _ _).drew
theorem Off.drew {w w' : World} {g : Nat} {o : Option Nat} (h : Off w w' g o) : Off w w'.drew g o := ⟨h.os, h.tape, h.output, h.size, h.block⟩
end Go.Proofs.Qxb6614451a
