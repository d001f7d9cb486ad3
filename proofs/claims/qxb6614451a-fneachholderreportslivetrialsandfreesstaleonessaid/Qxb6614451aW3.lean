/- The walk of the first law: the memory of the round. -/
import Derived.Test.Qxb6614451aW2
namespace Go.Proofs.Qxb6614451a
open Go.RowKit

/-- 'make([]T, l, c)' for whatever element type. -/
theorem make_cap {P : Program} (t e : TypeId) (z : Value) (size bytes : Nat) (ht : P.underlying t = some (.slice e)) (hinfo : (P.info? e).map (fun i => (i.zero, i.size, i.bytes)) = some (some z, size, bytes))
    (kl kc : IntKind) (l n : Nat) (hln : l ≤ n) (hbytes : bytes * n ≤ 281474976710656) (h63 : n ≤ 9223372036854775807) (w : World) :
    (Instr.makeSlice t (.int kl (l : Int)) (.int kc (n : Int))).run P w = .ok (.slice (some ⟨w.heap.size, 0, none⟩) l n) (w.alloc (.cells (madeCells z.cells (n * size)) e)) := by
  obtain ⟨i, hi, hz, hs, hb⟩ := info_parts hinfo
  have hb' : (i.bytes : Int) * (n : Int) ≤ 281474976710656 := by
    have h : ((i.bytes * n : Nat) : Int) ≤ 281474976710656 := by rw [hb]; omega
    rwa [Int.natCast_mul] at h
  have hr := run_make (P := P) w t e i z ht hi hz kl kc l n (by omega) (by omega) hb' (by omega)
  simp only [Int.toNat_natCast, hs] at hr
  exact hr

theorem row_made (w : World) (n : Nat) (hn : n ≤ maxLen) : Row (w.alloc (.cells (madeCells #[.int .i32 0] (n * 1)) 21)) w.heap.size n n (fun _ => 0) := by
  refine ⟨_, World.ownsRow_lit w (madeCells #[.int .i32 0] (n * 1)) n (Nat.le_refl _) hn (by simp [size_madeCells]), fun k hk => ?_⟩
  rw [toList_madeCells_one]; simp [hk]
theorem row_empty (w : World) (n : Nat) (hn : n ≤ maxLen) : Row (w.alloc (.cells (madeCells #[.int .i32 0] (n * 1)) 21)) w.heap.size n 0 (fun _ => 0) :=
  ⟨_, World.ownsRow_made w (madeCells #[.int .i32 0] (n * 1)) n (Nat.le_refl _) hn (by simp [size_madeCells]), fun k hk => by omega⟩
theorem Row.alloc {w : World} {b cap m : Nat} {h : Nat → Int} (r : Row w b cap m h) (o : Obj) : Row (w.alloc o) b cap m h := r.later ((Below.refl _ _).alloc (Nat.le_refl _) _)

/-- What the round of the first law owns. -/
structure Mem (w : World) (H n nf nl : Nat) (ff lf : Nat → Int) (lv : Value) (f : Nat → Nat → Int) (s : Int) (hc ht hm hx : Nat → Int) : Prop where
  gr : Graph w H (H + 7) lv (nf + nl) f s
  rc : Row w (H + 1) n n hc
  rt : Row w (H + 2) n n ht
  rm : Row w (H + 3) n n hm
  rx : Row w (H + 4) n n hx
  rf : Row w (H + 5) n nf ff
  rl : Row w (H + 6) n nl lf

theorem mem_start (w : World) (C : Array Value) (n : Nat) (hn : n ≤ maxLen) (hC : C.size = 23 ∧ C[12]? = some (.slice none 0 0) ∧ C[13]? = some (.int .i32 (-1))) :
    Mem (((((((w.alloc (.cells C 64)).alloc (.cells (madeCells #[.int .i32 0] (n * 1)) 21)).alloc (.cells (madeCells #[.int .i32 0] (n * 1)) 21)).alloc (.cells (madeCells #[.int .i32 0] (n * 1)) 21)).alloc (.cells (madeCells #[.int .i32 0] (n * 1)) 21)).alloc (.cells (madeCells #[.int .i32 0] (n * 1)) 21)).alloc (.cells (madeCells #[.int .i32 0] (n * 1)) 21))
      w.heap.size n 0 0 (fun _ => 0) (fun _ => 0) (.slice none 0 0) (fun _ _ => 0) (-1) (fun _ => 0) (fun _ => 0) (fun _ => 0) (fun _ => 0) := by
  have g0 : Head (w.alloc (.cells C 64)) w.heap.size (.slice none 0 0) (-1) := ⟨C, heap_alloc_new w _, hC⟩
  refine ⟨⟨?_, ⟨[], World.ownsRow_nil _ _ _ _, fun i j hi => by omega⟩, by omega, by simp⟩, ?_, ?_, ?_, ?_, ?_, ?_⟩
  · refine g0.same ?_
    rw [heap_alloc_old _ _ (by simp; omega), heap_alloc_old _ _ (by simp; omega), heap_alloc_old _ _ (by simp; omega), heap_alloc_old _ _ (by simp; omega), heap_alloc_old _ _ (by simp; omega), heap_alloc_old _ _ (by simp)]
  · have := row_made (w.alloc (.cells C 64)) n hn
    simp only [World.size_alloc] at this
    exact ((((this.alloc _).alloc _).alloc _).alloc _).alloc _
  · have := row_made ((w.alloc (.cells C 64)).alloc (.cells (madeCells #[.int .i32 0] (n * 1)) 21)) n hn
    simp only [World.size_alloc] at this
    exact (((this.alloc _).alloc _).alloc _).alloc _
  · have := row_made (((w.alloc (.cells C 64)).alloc (.cells (madeCells #[.int .i32 0] (n * 1)) 21)).alloc (.cells (madeCells #[.int .i32 0] (n * 1)) 21)) n hn
    simp only [World.size_alloc] at this
    exact ((this.alloc _).alloc _).alloc _
  · have := row_made ((((w.alloc (.cells C 64)).alloc (.cells (madeCells #[.int .i32 0] (n * 1)) 21)).alloc (.cells (madeCells #[.int .i32 0] (n * 1)) 21)).alloc (.cells (madeCells #[.int .i32 0] (n * 1)) 21)) n hn
    simp only [World.size_alloc] at this
    exact (this.alloc _).alloc _
  · have := row_empty (((((w.alloc (.cells C 64)).alloc (.cells (madeCells #[.int .i32 0] (n * 1)) 21)).alloc (.cells (madeCells #[.int .i32 0] (n * 1)) 21)).alloc (.cells (madeCells #[.int .i32 0] (n * 1)) 21)).alloc (.cells (madeCells #[.int .i32 0] (n * 1)) 21)) n hn
    simp only [World.size_alloc] at this
    exact this.alloc _
  · have := row_empty ((((((w.alloc (.cells C 64)).alloc (.cells (madeCells #[.int .i32 0] (n * 1)) 21)).alloc (.cells (madeCells #[.int .i32 0] (n * 1)) 21)).alloc (.cells (madeCells #[.int .i32 0] (n * 1)) 21)).alloc (.cells (madeCells #[.int .i32 0] (n * 1)) 21)).alloc (.cells (madeCells #[.int .i32 0] (n * 1)) 21)) n hn
    simp only [World.size_alloc] at this
    exact this

/-- The law's own copies. -/
def Mir (cnt : Nat) (f : Nat → Nat → Int) (hc ht hm hx : Nat → Int) : Prop := ∀ i, i < cnt → hc i = f i 0 ∧ ht i = f i 1 ∧ hm i = f i 2 ∧ hx i = f i 3

theorem Mir.link {cnt : Nat} {f : Nat → Nat → Int} {hc ht hm hx : Nat → Int} (h : Mir cnt f hc ht hm hx) {cnt' k : Nat} (hk : cnt' = cnt ∨ cnt' = cnt + 1 ∧ k = cnt) (c t m x : Int) : Mir cnt' (updE f k c t m x) (upd hc k c) (upd ht k t) (upd hm k m) (upd hx k x) := by
  intro i hi
  by_cases hik : i = k
  · subst hik; simp [upd, updE]
  · have := h i (by omega)
    simpa [upd, updE, hik] using this
theorem Mir.free {cnt : Nat} {f : Nat → Nat → Int} {hc ht hm hx : Nat → Int} (h : Mir cnt f hc ht hm hx) (d : Nat) (s : Int) : Mir cnt (updN f d s) hc ht hm (upd hx d s) := by
  intro i hi
  have := h i hi
  by_cases hik : i = d
  · subst hik; simpa [upd, updN] using ⟨this.1, this.2.1, this.2.2.1⟩
  · simpa [upd, updN, hik] using this
/-- What is wanted of the next link, and what is left of the stack. -/
def Popped (nf nl : Nat) (ff : Nat → Int) (nf' cnt : Nat) (want : Int) : Prop := nf = 0 ∧ nf' = 0 ∧ cnt = nl + 1 ∧ want = nl ∨ nf = nf' + 1 ∧ cnt = nf + nl ∧ want = ff nf'

/-- After the link: the entry is the one that was wanted. -/
theorem popped_link {s : Int} {f : Nat → Nat → Int} {nf nl : Nat} {ff lf : Nat → Int} (h : Inv s f nf ff nl lf) {nf' cnt : Nat} {want : Int} (hp : Popped nf nl ff nf' cnt want) {k n' : Nat} {s' : Int}
    (hr : 0 ≤ s ∧ k = s.toNat ∧ n' = nf + nl ∧ s' = f k 3 ∨ s < 0 ∧ k = nf + nl ∧ n' = nf + nl + 1 ∧ s' = s) (c t m x : Int) :
    want = k ∧ n' = cnt ∧ n' = nf' + (nl + 1) ∧ k < n' ∧ Inv s' (updE f k c t m x) nf' ff (nl + 1) (upd lf nl k) ∧ (n' = nf + nl ∨ n' = nf + nl + 1 ∧ k = nf + nl) := by
  have hsp := h.sp
  rcases hp with ⟨rfl, rfl, rfl, rfl⟩ | ⟨rfl, rfl, rfl⟩
  · simp only [if_true] at hsp
    subst hsp
    rcases hr with ⟨h1, _⟩ | ⟨_, rfl, rfl, rfl⟩
    · omega
    · refine ⟨by omega, by omega, by omega, by omega, ?_, .inr ⟨rfl, rfl⟩⟩
      have := h.grow c t m x
      simpa using this
  · have h0 : nf' + 1 ≠ 0 := by omega
    simp only [h0, if_false, Nat.add_sub_cancel] at hsp
    have h1 := h.fr nf' (by omega)
    rcases hr with ⟨_, rfl, rfl, rfl⟩ | ⟨h2, _⟩
    · refine ⟨by omega, rfl, by omega, by omega, h.reuse s.toNat (by omega) c t m x, .inl rfl⟩
    · omega

theorem Mem.off {w w1 : World} {H n nf nl : Nat} {ff lf : Nat → Int} {lv : Value} {f : Nat → Nat → Int} {s : Int} {hc ht hm hx : Nat → Int} (h : Mem w H n nf nl ff lf lv f s hc ht hm hx) (o : Obj) (hf : Off (w.alloc o) w1 H lv.ownBlock) :
    (Row w1 (H + 1) n n hc ∧ Row w1 (H + 2) n n ht ∧ Row w1 (H + 3) n n hm ∧ Row w1 (H + 4) n n hx ∧ Row w1 (H + 5) n nf ff ∧ Row w1 (H + 6) n nl lf) ∧ w1.heap[w.heap.size]? = some o ∧ w.heap.size < w1.heap.size ∧ Below H w w1 := by
  have hb := h.gr.ents.lt
  have hl := h.gr.head.lt
  have hne : ∀ j, j < H + 7 → some j ≠ lv.ownBlock := fun j hj e => by have := (hb j e.symm).1; omega
  refine ⟨⟨(h.rc.alloc o).off hf (by omega) (hne _ (by omega)), (h.rt.alloc o).off hf (by omega) (hne _ (by omega)), (h.rm.alloc o).off hf (by omega) (hne _ (by omega)), (h.rx.alloc o).off hf (by omega) (hne _ (by omega)), (h.rf.alloc o).off hf (by omega) (hne _ (by omega)), (h.rl.alloc o).off hf (by omega) (hne _ (by omega))⟩, ?_, ?_, ?_⟩
  · rw [hf.block w.heap.size (by simp) (by omega) (fun e => by have := (hb _ e.symm).2; omega)]
    exact heap_alloc_new w o
  · have := hf.size; simp at this; omega
  · exact ((Below.refl H w).alloc (by omega) o).trans (hf.below (Nat.le_refl _) (by simp; omega) (fun k e => by have := (hb k e).1; omega))

theorem boxC {w : World} {b : Nat} {v0 v1 v2 v3 v4 : Value} {t : TypeId} (h : w.heap[b]? = some (.cells #[v0, v1, v2, v3, v4] t (0, 0))) : w.cell? ⟨b, 0, none⟩ = some v0 ∧ w.cell? ⟨b, 1, none⟩ = some v1 ∧ w.cell? ⟨b, 2, none⟩ = some v2 ∧ w.cell? ⟨b, 3, none⟩ = some v3 ∧ w.cell? ⟨b, 4, none⟩ = some v4 :=
  ⟨cellC h 0, cellC h 1, cellC h 2, cellC h 3, cellC h 4⟩

/-- The four copies are stored. -/
theorem Mem.store {w : World} {H n nf nl k : Nat} {ff lf : Nat → Int} {hc ht hm hx : Nat → Int} (c t m x : Int)
    (h : Row w (H + 1) n n hc ∧ Row w (H + 2) n n ht ∧ Row w (H + 3) n n hm ∧ Row w (H + 4) n n hx ∧ Row w (H + 5) n nf ff ∧ Row w (H + 6) n nl lf) :
    Row ((((w.setCell ⟨H + 1, k, none⟩ (.int .i32 c)).setCell ⟨H + 2, k, none⟩ (.int .i32 t)).setCell ⟨H + 3, k, none⟩ (.int .i32 m)).setCell ⟨H + 4, k, none⟩ (.int .i32 x)) (H + 1) n n (upd hc k c) ∧
    Row ((((w.setCell ⟨H + 1, k, none⟩ (.int .i32 c)).setCell ⟨H + 2, k, none⟩ (.int .i32 t)).setCell ⟨H + 3, k, none⟩ (.int .i32 m)).setCell ⟨H + 4, k, none⟩ (.int .i32 x)) (H + 2) n n (upd ht k t) ∧
    Row ((((w.setCell ⟨H + 1, k, none⟩ (.int .i32 c)).setCell ⟨H + 2, k, none⟩ (.int .i32 t)).setCell ⟨H + 3, k, none⟩ (.int .i32 m)).setCell ⟨H + 4, k, none⟩ (.int .i32 x)) (H + 3) n n (upd hm k m) ∧
    Row ((((w.setCell ⟨H + 1, k, none⟩ (.int .i32 c)).setCell ⟨H + 2, k, none⟩ (.int .i32 t)).setCell ⟨H + 3, k, none⟩ (.int .i32 m)).setCell ⟨H + 4, k, none⟩ (.int .i32 x)) (H + 4) n n (upd hx k x) ∧
    Row ((((w.setCell ⟨H + 1, k, none⟩ (.int .i32 c)).setCell ⟨H + 2, k, none⟩ (.int .i32 t)).setCell ⟨H + 3, k, none⟩ (.int .i32 m)).setCell ⟨H + 4, k, none⟩ (.int .i32 x)) (H + 5) n nf ff ∧
    Row ((((w.setCell ⟨H + 1, k, none⟩ (.int .i32 c)).setCell ⟨H + 2, k, none⟩ (.int .i32 t)).setCell ⟨H + 3, k, none⟩ (.int .i32 m)).setCell ⟨H + 4, k, none⟩ (.int .i32 x)) (H + 6) n nl lf := by
  obtain ⟨r1, r2, r3, r4, r5, r6⟩ := h
  exact ⟨(((r1.set k c).far (by simp) _).far (by simp) _).far (by simp) _, (((r2.far (by simp) _).set k t).far (by simp) _).far (by simp) _,
    (((r3.far (by simp) _).far (by simp) _).set k m).far (by simp) _, (((r4.far (by simp) _).far (by simp) _).far (by simp) _).set k x,
    (((r5.far (by simp) _).far (by simp) _).far (by simp) _).far (by simp) _, (((r6.far (by simp) _).far (by simp) _).far (by simp) _).far (by simp) _⟩
theorem Graph.store4 {w : World} {H k : Nat} {lv : Value} {n : Nat} {f : Nat → Nat → Int} {s : Int} (h : Graph w H (H + 7) lv n f s) (c t m x : Value) :
    Graph ((((w.setCell ⟨H + 1, k, none⟩ c).setCell ⟨H + 2, k, none⟩ t).setCell ⟨H + 3, k, none⟩ m).setCell ⟨H + 4, k, none⟩ x) H (H + 7) lv n f s :=
  (((h.far (by simp) (by simp) c).far (by simp) (by simp) t).far (by simp) (by simp) m).far (by simp) (by simp) x
theorem heap_store4 {w : World} {H k b : Nat} (c t m x : Value) (h : b < H + 1 ∨ H + 4 < b) : ((((w.setCell ⟨H + 1, k, none⟩ c).setCell ⟨H + 2, k, none⟩ t).setCell ⟨H + 3, k, none⟩ m).setCell ⟨H + 4, k, none⟩ x).heap[b]? = w.heap[b]? := by
  rw [heap_setCell_other _ _ _ _ (by simp; omega), heap_setCell_other _ _ _ _ (by simp; omega), heap_setCell_other _ _ _ _ (by simp; omega), heap_setCell_other _ _ _ _ (by simp; omega)]

/-- The entry is appended to the live ones. -/
theorem Mem.push {w w' : World} {H n nf nl : Nat} {ff lf : Nat → Int} {lv : Value} {f : Nat → Nat → Int} {s : Int} {hc ht hm hx : Nat → Int} {xs : List Value} {k : Nat} {o : Obj}
    (hG : Graph w H (H + 7) lv (nf + (nl + 1)) f s) (h : Row w (H + 1) n n hc ∧ Row w (H + 2) n n ht ∧ Row w (H + 3) n n hm ∧ Row w (H + 4) n n hx ∧ Row w (H + 5) n nf ff)
    (hxl : xs.length = nl) (hxs : ∀ k, k < nl → xs[k]? = some (.int .i32 (lf k)))
    (hown : w'.ownsRow (H + 6) 21 1 (.slice (some ⟨H + 6, 0, none⟩) (nl + 1) n) (nl + 1) (xs ++ [.int .i32 k]))
    (hg : (w.alloc o).grownBy w' (some (H + 6))) :
    Mem w' H n nf (nl + 1) ff (upd lf nl k) lv f s hc ht hm hx ∧ ∀ b, b ≠ H + 6 → b < w.heap.size → w'.heap[b]? = w.heap[b]? := by
  have hle := hG.le
  have hb : ∀ b, b ≠ H + 6 → b < w.heap.size → w'.heap[b]? = w.heap[b]? := fun b h1 h2 =>
    (hg.block b (by simp; omega) (fun e => h1 (by simpa using e))).trans (heap_alloc_old w o h2)
  obtain ⟨r1, r2, r3, r4, r5⟩ := h
  exact ⟨⟨(hG.alloc o).grown hg (by omega) (by omega), r1.same (hb _ (by omega) (by omega)), r2.same (hb _ (by omega) (by omega)), r3.same (hb _ (by omega) (by omega)), r4.same (hb _ (by omega) (by omega)), r5.same (hb _ (by omega) (by omega)), Row.push hown hxl hxs⟩, hb⟩
theorem popped_row {nf nl nf' cnt : Nat} {ff : Nat → Int} {want : Int} (hp : Popped nf nl ff nf' cnt want) {w : World} {b cap : Nat} {h : Nat → Int} (r : Row w b cap nf h) : Row w b cap nf' h := by
  rcases hp with ⟨rfl, rfl, _⟩ | ⟨rfl, _⟩
  · exact r
  · exact r.pop
theorem new_one {w : World} {x : Value} {t : TypeId} {b : Nat} (hb : w.heap.size = b) : (w.alloc (.cells #[x] t)).cell? ⟨b, 0, none⟩ = some x := by
  subst hb; exact cellC (heap_alloc_new w _) 0
theorem new_one_at {w : World} {x : Value} {t : TypeId} {b : Nat} (hb : w.heap.size = b) : ∀ j u, [x][j]? = some u → (w.alloc (.cells #[x] t)).cell? ((⟨b, 0, none⟩ : Addr).add j) = some u := by
  intro j u hj
  match j, hj with
  | 0, hj => simp at hj; subst hj; exact new_one hb
theorem one_cell {k : IntKind} {x : Int} : ∀ u ∈ [Value.int k x], u.oneCell' = true := by
  intro u hu; simp at hu; subst hu; rfl
/-- The live entry at place j gives way to the last. -/
theorem Mem.swap {w : World} {H n nf nl j : Nat} {ff lf : Nat → Int} {lv : Value} {f : Nat → Nat → Int} {s : Int} {hc ht hm hx : Nat → Int} (h : Mem w H n nf (nl + 1) ff lf lv f s hc ht hm hx) :
    Graph (w.setCell ⟨H + 6, j, none⟩ (.int .i32 (lf nl))) H (H + 7) lv (nf + (nl + 1)) f s ∧
    (Row (w.setCell ⟨H + 6, j, none⟩ (.int .i32 (lf nl))) (H + 1) n n hc ∧ Row (w.setCell ⟨H + 6, j, none⟩ (.int .i32 (lf nl))) (H + 2) n n ht ∧ Row (w.setCell ⟨H + 6, j, none⟩ (.int .i32 (lf nl))) (H + 3) n n hm ∧ Row (w.setCell ⟨H + 6, j, none⟩ (.int .i32 (lf nl))) (H + 4) n n hx ∧ Row (w.setCell ⟨H + 6, j, none⟩ (.int .i32 (lf nl))) (H + 5) n nf ff ∧ Row (w.setCell ⟨H + 6, j, none⟩ (.int .i32 (lf nl))) (H + 6) n nl (upd lf j (lf nl))) ∧ Below H w (w.setCell ⟨H + 6, j, none⟩ (.int .i32 (lf nl))) :=
  ⟨h.gr.far (by simp) (by simp) _, ⟨h.rc.far (by simp) _, h.rt.far (by simp) _, h.rm.far (by simp) _, h.rx.far (by simp) _, h.rf.far (by simp) _, (h.rl.set j (lf nl)).pop⟩, (Below.refl _ _).setCell (by simp) _⟩

theorem rows_off {w w1 : World} {H n nf nl : Nat} {ff lf : Nat → Int} {o : Option Nat} {hc ht hm hx : Nat → Int} (h : Row w (H + 1) n n hc ∧ Row w (H + 2) n n ht ∧ Row w (H + 3) n n hm ∧ Row w (H + 4) n n hx ∧ Row w (H + 5) n nf ff ∧ Row w (H + 6) n nl lf) (hf : Off w w1 H o) (ho : ∀ k, o = some k → H + 7 ≤ k) :
    Row w1 (H + 1) n n hc ∧ Row w1 (H + 2) n n ht ∧ Row w1 (H + 3) n n hm ∧ Row w1 (H + 4) n n hx ∧ Row w1 (H + 5) n nf ff ∧ Row w1 (H + 6) n nl lf := by
  obtain ⟨r1, r2, r3, r4, r5, r6⟩ := h
  have hne : ∀ j, j < H + 7 → some j ≠ o := fun j hj e => by have := ho j e.symm; omega
  exact ⟨r1.off hf (by omega) (hne _ (by omega)), r2.off hf (by omega) (hne _ (by omega)), r3.off hf (by omega) (hne _ (by omega)), r4.off hf (by omega) (hne _ (by omega)), r5.off hf (by omega) (hne _ (by omega)), r6.off hf (by omega) (hne _ (by omega))⟩

/-- The entry d goes back on the stack. -/
theorem Mem.pushf {w w' : World} {H n nf nl : Nat} {ff lf : Nat → Int} {lv : Value} {f : Nat → Nat → Int} {s : Int} {hc ht hm hx : Nat → Int} {xs : List Value} {d : Nat} {old : Int} {o : Obj}
    (hG : Graph w H (H + 7) lv (nf + (nl + 1)) f s) (h : Row w (H + 1) n n hc ∧ Row w (H + 2) n n ht ∧ Row w (H + 3) n n hm ∧ Row w (H + 4) n n hx ∧ Row w (H + 5) n nf ff ∧ Row w (H + 6) n nl lf)
    (hxl : xs.length = nf) (hxs : ∀ k, k < nf → xs[k]? = some (.int .i32 (ff k)))
    (hown : w'.ownsRow (H + 5) 21 1 (.slice (some ⟨H + 5, 0, none⟩) (nf + 1) n) (nf + 1) (xs ++ [.int .i32 d]))
    (hg : ((w.setCell ⟨H + 4, d, none⟩ (.int .i32 old)).alloc o).grownBy w' (some (H + 5))) :
    Mem w' H n (nf + 1) nl (upd ff nf d) lf lv f s hc ht hm (upd hx d old) ∧ Below H w w' := by
  have hle := hG.le
  have hb : ∀ b, b ≠ H + 5 → b < w.heap.size → w'.heap[b]? = (w.setCell ⟨H + 4, d, none⟩ (.int .i32 old)).heap[b]? := fun b h1 h2 =>
    (hg.block b (by simp; omega) (fun e => h1 (by simpa using e))).trans (heap_alloc_old _ o (by simpa using h2))
  obtain ⟨r1, r2, r3, r4, r5, r6⟩ := h
  have hG1 : Graph (w.setCell ⟨H + 4, d, none⟩ (.int .i32 old)) H (H + 7) lv (nf + 1 + nl) f s := by
    rw [show nf + 1 + nl = nf + (nl + 1) by omega]; exact hG.far (by simp) (by simp) _
  refine ⟨⟨(hG1.alloc o).grown hg (by omega) (by omega), (r1.far (by simp) _).same (hb _ (by omega) (by omega)), (r2.far (by simp) _).same (hb _ (by omega) (by omega)), (r3.far (by simp) _).same (hb _ (by omega) (by omega)), (r4.set d old).same (hb _ (by omega) (by omega)), Row.push hown hxl hxs, (r6.far (by simp) _).same (hb _ (by omega) (by omega))⟩, ?_⟩
  exact ⟨hg.os, hg.tape, hg.output, Nat.le_trans (by simp) hg.size, fun b hbb => (hb b (by omega) (by omega)).trans (heap_setCell_other _ _ _ _ (by simp; omega))⟩
end Go.Proofs.Qxb6614451a
