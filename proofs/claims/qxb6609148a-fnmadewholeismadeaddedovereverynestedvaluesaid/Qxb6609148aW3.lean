/- Values and lists of values. -/
import Derived.Test.Qxb6609148aW2
namespace Go.Proofs.Qxb6609148a
open Go.RowKit

/-! What a type assertion says of a value whose dynamic type is known: closed facts of the program's tables. -/
theorem is33_30 (v : Value) (w : World) : (Instr.typeAssert (.iface 33 v) 47 30 true).run Try.prog w = .ok (.tuple #[.agg #[.slice none 0 0, .int .i64 0, .int .i64 0], .bool false]) w := by kernel_rfl
theorem is33_51 (v : Value) (w : World) : (Instr.typeAssert (.iface 33 v) 47 51 true).run Try.prog w = .ok (.tuple #[.agg #[.slice none 0 0, .int .i64 0, .int .i64 0], .bool false]) w := by kernel_rfl
theorem is33_55 (v : Value) (w : World) : (Instr.typeAssert (.iface 33 v) 47 55 true).run Try.prog w = .ok (.tuple #[.agg #[.slice none 0 0, .slice none 0 0, .string ByteArray.empty], .bool false]) w := by kernel_rfl
theorem is33_33 (v : Value) (w : World) : (Instr.typeAssert (.iface 33 v) 47 33 true).run Try.prog w = .ok (.tuple #[v, .bool true]) w := by kernel_rfl
theorem is33_36 (v : Value) (w : World) : (Instr.typeAssert (.iface 33 v) 47 36 true).run Try.prog w = .ok (.tuple #[.agg #[.pointer none], .bool false]) w := by kernel_rfl
theorem is33_60 (v : Value) (w : World) : (Instr.typeAssert (.iface 33 v) 47 60 true).run Try.prog w = .ok (.tuple #[.agg #[.pointer none, .int .i64 0], .bool false]) w := by kernel_rfl
theorem is30_30 (v : Value) (w : World) : (Instr.typeAssert (.iface 30 v) 47 30 true).run Try.prog w = .ok (.tuple #[v, .bool true]) w := by kernel_rfl
theorem is30_51 (v : Value) (w : World) : (Instr.typeAssert (.iface 30 v) 47 51 true).run Try.prog w = .ok (.tuple #[.agg #[.slice none 0 0, .int .i64 0, .int .i64 0], .bool false]) w := by kernel_rfl
theorem is30_55 (v : Value) (w : World) : (Instr.typeAssert (.iface 30 v) 47 55 true).run Try.prog w = .ok (.tuple #[.agg #[.slice none 0 0, .slice none 0 0, .string ByteArray.empty], .bool false]) w := by kernel_rfl
theorem is30_33 (v : Value) (w : World) : (Instr.typeAssert (.iface 30 v) 47 33 true).run Try.prog w = .ok (.tuple #[.string ByteArray.empty, .bool false]) w := by kernel_rfl
theorem is30_36 (v : Value) (w : World) : (Instr.typeAssert (.iface 30 v) 47 36 true).run Try.prog w = .ok (.tuple #[.agg #[.pointer none], .bool false]) w := by kernel_rfl
theorem is30_60 (v : Value) (w : World) : (Instr.typeAssert (.iface 30 v) 47 60 true).run Try.prog w = .ok (.tuple #[.agg #[.pointer none, .int .i64 0], .bool false]) w := by kernel_rfl
theorem is36_30 (v : Value) (w : World) : (Instr.typeAssert (.iface 36 v) 47 30 true).run Try.prog w = .ok (.tuple #[.agg #[.slice none 0 0, .int .i64 0, .int .i64 0], .bool false]) w := by kernel_rfl
theorem is36_51 (v : Value) (w : World) : (Instr.typeAssert (.iface 36 v) 47 51 true).run Try.prog w = .ok (.tuple #[.agg #[.slice none 0 0, .int .i64 0, .int .i64 0], .bool false]) w := by kernel_rfl
theorem is36_55 (v : Value) (w : World) : (Instr.typeAssert (.iface 36 v) 47 55 true).run Try.prog w = .ok (.tuple #[.agg #[.slice none 0 0, .slice none 0 0, .string ByteArray.empty], .bool false]) w := by kernel_rfl
theorem is36_33 (v : Value) (w : World) : (Instr.typeAssert (.iface 36 v) 47 33 true).run Try.prog w = .ok (.tuple #[.string ByteArray.empty, .bool false]) w := by kernel_rfl
theorem is36_36 (v : Value) (w : World) : (Instr.typeAssert (.iface 36 v) 47 36 true).run Try.prog w = .ok (.tuple #[v, .bool true]) w := by kernel_rfl
theorem is36_60 (v : Value) (w : World) : (Instr.typeAssert (.iface 36 v) 47 60 true).run Try.prog w = .ok (.tuple #[.agg #[.pointer none, .int .i64 0], .bool false]) w := by kernel_rfl

def RetTwo (e : Ending) : Prop := ∃ d m, e = .returned (.tuple #[.int .i64 d, .int .i64 m])
theorem RetTwo.mk (d m : Int) : RetTwo (.returned (.tuple #[.int .i64 d, .int .i64 m])) := ⟨d, m, rfl⟩

set_option maxRecDepth 8000 in
set_option maxHeartbeats 400000 in
theorem measure_str (s : ByteArray) (w : World) :
    Calls Try.prog 38 #[.iface 33 (.string s)] w fun e w' => RetTwo e ∧ Below w.heap.size w w' := by
  have q1 := is33_30
  have q2 := is33_51
  have q3 := is33_55
  have q4 := is33_33
  go_enter Try.func38, Try.ntmps38
  go_wp2
  go_ret2
  exact ⟨RetTwo.mk _ _, Below.refl _ _⟩

set_option maxRecDepth 8000 in
set_option maxHeartbeats 400000 in
theorem measure_list (a : Option Addr) (n c : Nat) (i x : Int) (w : World) :
    Calls Try.prog 38 #[.iface 30 (.agg #[.slice a n c, .int .i64 i, .int .i64 x])] w fun e w' => RetTwo e ∧ Below w.heap.size w w' := by
  have q1 := is30_30
  go_enter Try.func38, Try.ntmps38
  go_wp2
  go_quiet (fail)
  go_wp2
  go_ret2
  exact ⟨RetTwo.mk _ _, ((Below.refl _ _).alloc (Nat.le_refl _) _).trans (below_drewN _)⟩

set_option maxRecDepth 8000 in
set_option maxHeartbeats 400000 in
theorem measure_int (p : Option Addr) (a : Nat) (w : World) (ha : a < 18446744073709551616) (hp : IntAt w p a) :
    Calls Try.prog 38 #[.iface 36 (.agg #[.pointer p])] w fun e w' => RetTwo e ∧ Below w.heap.size w w' := by
  have q1 := is36_30
  have q2 := is36_51
  have q3 := is36_55
  have q4 := is36_33
  have q5 := is36_36
  go_enter Try.func38, Try.ntmps38
  go_wp2_with fail
  have hb0 : Below w.heap.size w (w.alloc (.cells #[.pointer p] 36)) := (Below.refl _ _).alloc (Nat.le_refl _) _
  refine (big_any p a _ (hp.later hb0)).mono ?_
  rintro e w1 ⟨rfl, hb1⟩
  go_wp2_with fail
  refine (magnitude_any p a _ ha ((hp.later hb0).later hb1)).mono ?_
  rintro e w2 ⟨⟨mm, rfl, _, h8⟩, rfl⟩
  go_wp2
  go_ret2
  exact ⟨RetTwo.mk _ _, hb0.trans (hb1.mono (by simp))⟩

/-- A value of one of the three kinds that these laws make. -/
def ValAt (w : World) (v : Value) : Prop :=
  (∃ s, v = .iface 33 (.string s)) ∨ (∃ a n c i x, v = .iface 30 (.agg #[.slice a n c, .int .i64 i, .int .i64 x])) ∨ ∃ p a, v = .iface 36 (.agg #[.pointer p]) ∧ a < 18446744073709551616 ∧ IntAt w p a
theorem ValAt.later {w w' : World} {v : Value} (h : ValAt w v) (hb : Below w.heap.size w w') : ValAt w' v := by
  rcases h with h | h | ⟨p, a, h, ha, hi⟩
  · exact .inl h
  · exact .inr (.inl h)
  · exact .inr (.inr ⟨p, a, h, ha, hi.later hb⟩)

theorem measure_any (v : Value) (w : World) (hv : ValAt w v) : Calls Try.prog 38 #[v] w fun e w' => RetTwo e ∧ Below w.heap.size w w' := by
  rcases hv with ⟨s, rfl⟩ | ⟨a, n, c, i, x, rfl⟩ | ⟨p, a, rfl, ha, hi⟩
  · exact measure_str s w
  · exact measure_list a n c i x w
  · exact measure_int p a w ha hi

set_option maxHeartbeats 400000 in
theorem add_any (g : Nat) (ky : ByteArray) (v : Value) (i x : Int) (w : World) (hv : ValAt w v) (hg : g < w.heap.size) (c1 : w.cell? ⟨g, 1, none⟩ = some (.int .i64 i)) (c2 : w.cell? ⟨g, 2, none⟩ = some (.int .i64 x)) (f : ∀ o, w.frozen? ⟨g, o, none⟩ = false) :
    Calls Try.prog 29 #[.pointer (some ⟨g, 1, none⟩), .string ky, v] w fun e w' => e = .returned (.tuple #[]) ∧ ∃ w1 i' x', w' = (w1.setCell ⟨g, 1, none⟩ (.int .i64 i')).setCell ⟨g, 2, none⟩ (.int .i64 x') ∧ Below w.heap.size w w1 := by
  go_enter Try.func29, Try.ntmps29
  go_wp2_with fail
  refine (measure_any v w hv).mono ?_
  rintro e w1 ⟨⟨d, m, rfl⟩, hb⟩
  have d1 := (hb.cell (p := ⟨g, 1, none⟩) hg).trans c1
  have d2 := (hb.cell (p := ⟨g, 2, none⟩) hg).trans c2
  have f1 : ∀ o, w1.frozen? ⟨g, o, none⟩ = false := fun o => (hb.frozen (p := ⟨g, o, none⟩) hg).trans (f o)
  clear c1 c2 f
  go_wp2
  go_end0
  exact ⟨rfl, w1, _, _, rfl, hb⟩

/-- A slice of such values, told by its cells. -/
def ValsAt (w : World) (a : Option Addr) (n : Nat) (V : Nat → Value) : Prop :=
  0 < n → ∃ b off, a = some ⟨b, off, none⟩ ∧ b < w.heap.size ∧ ∀ i, i < n → w.cell? ⟨b, off + i, none⟩ = some (V i) ∧ ValAt w (V i)
theorem ValsAt.later {w w' : World} {a : Option Addr} {n : Nat} {V : Nat → Value} (h : ValsAt w a n V) (hb : Below w.heap.size w w') : ValsAt w' a n V := by
  intro h0
  obtain ⟨b, off, rfl, hl, hc⟩ := h h0
  exact ⟨b, off, rfl, Nat.lt_of_lt_of_le hl hb.size, fun i hi => ⟨(hb.cell (p := ⟨b, off + i, none⟩) hl).trans (hc i hi).1, (hc i hi).2.later hb⟩⟩

theorem ValAt.iface {w : World} {v : Value} (h : ValAt w v) : ∃ t x, v = .iface t x := by
  rcases h with ⟨s, rfl⟩ | ⟨a, n, c, i, x, rfl⟩ | ⟨p, a, rfl, _⟩ <;> exact ⟨_, _, rfl⟩

def RetList (e : Ending) (a : Option Addr) (n c : Nat) : Prop := ∃ i x, e = .returned (.agg #[.slice a n c, .int .i64 i, .int .i64 x])

/-- A list that is a result is read off its block. -/
theorem results30 {f : Func} {t : Nat} {tmps : Array Value} {w : World} {b : Nat} {v0 v1 v2 : Value} (hf : f.results = #[.cell t 30]) (ht : tmps.getD t undef = .pointer (some ⟨b, 0, none⟩))
    (h0 : w.cell? ⟨b, 0, none⟩ = some v0) (h1 : w.cell? ⟨b, 1, none⟩ = some v1) (h2 : w.cell? ⟨b, 2, none⟩ = some v2) :
    (results f tmps).run Try.prog w = .ok (.agg #[v0, v1, v2]) w := by
  have e : (results f tmps).run Try.prog w = ((asAddr (tmps.getD t undef)).run Try.prog w).andThen fun a w₁ => (loadVar 30 a).run Try.prog w₁ := by
    simp only [results, hf]
    simp [Sem.run_bind, Result.andThen]
  rw [e, ht]
  simp [go_sem, h0, h1, h2]

theorem three_set (w : World) (b : Nat) (v0 v1 v2 x0 x1 x2 : Value) (h0 : w.cell? ⟨b, 0, none⟩ = some x0) (h1 : w.cell? ⟨b, 1, none⟩ = some x1) (h2 : w.cell? ⟨b, 2, none⟩ = some x2) :
    let w' := ((w.setCell ⟨b, 0, none⟩ v0).setCell ⟨b, 1, none⟩ v1).setCell ⟨b, 2, none⟩ v2
    w'.cell? ⟨b, 0, none⟩ = some v0 ∧ w'.cell? ⟨b, 1, none⟩ = some v1 ∧ w'.cell? ⟨b, 2, none⟩ = some v2 := by
  have ne : ∀ i j : Nat, i ≠ j → (⟨b, i, none⟩ : Addr) ≠ ⟨b, j, none⟩ := fun i j h e => h (by injection e)
  refine ⟨?_, ?_, ?_⟩
  · rw [World.cell?_setCell_other _ _ _ _ (ne 2 0 (by omega)), World.cell?_setCell_other _ _ _ _ (ne 1 0 (by omega))]
    exact World.cell?_setCell_same _ _ _ h0
  · rw [World.cell?_setCell_other _ _ _ _ (ne 2 1 (by omega))]
    exact World.cell?_setCell_same _ _ _ (by rw [World.cell?_setCell_other _ _ _ _ (ne 0 1 (by omega))]; exact h1)
  · exact World.cell?_setCell_same _ _ _ (by rw [World.cell?_setCell_other _ _ _ _ (ne 1 2 (by omega)), World.cell?_setCell_other _ _ _ _ (ne 0 2 (by omega))]; exact h2)

theorem heap_set_other {w : World} {g : Nat} {q : Addr} {v : Value} (h : g ≠ q.block) : (w.setCell q v).heap[g]? = w.heap[g]? := Below.heap_setCell _ _ _ _ h

set_option maxHeartbeats 400000 in
theorem newList_any (a : Option Addr) (n c : Nat) (V : Nat → Value) (w : World) (hn : n ≤ 1048576) (hp : ValsAt w a n V) :
    Calls Try.prog 21 #[.slice a n c] w fun e w' => RetList e a n c ∧ Below w.heap.size w w' := by
  go_enter Try.func21, Try.ntmps21
  go_wp2
  go_loopg [5, 10] n (fun k u i wr => ∃ (j : Nat) (d m : Int), k + j = n ∧ i = .int .i64 j ∧ wr.heap[w.heap.size]? = some (.cells #[.slice none 0 0, .int .i64 0, .int .i64 0] 30 (0, 0)) ∧ wr.heap[w.heap.size + 1]? = some (.cells #[.slice a n c, .int .i64 d, .int .i64 m] 30 (0, 0)) ∧ Below w.heap.size w wr)
  case atStart =>
    refine ⟨0, 0, 0, by omega, rfl, ?_, ?_, ((Below.refl _ _).alloc (Nat.le_refl _) _).alloc (by simp) _⟩
    · rw [Below.heap_alloc _ _ _ (by simp)]; exact heap_alloc_new _ _
    · rw [← show (w.alloc (.cells #[.slice none 0 0, .int .i64 0, .int .i64 0] 30)).heap.size = w.heap.size + 1 by simp]; exact heap_alloc_new _ _
  case round =>
    obtain ⟨j, d, m, hk, rfl, hg0, hg1, hbel⟩ := hrel
    have hl1 : w.heap.size + 1 < wr.heap.size := (Array.getElem?_eq_some_iff.1 hg1).1
    by_cases hlt : j < n
    · have hp2 := hp.later hbel
      obtain ⟨b, off, rfl, hb, hc⟩ := hp2 (by omega)
      obtain ⟨c0, hv⟩ := hc j hlt
      obtain ⟨t, y, hty⟩ := hv.iface
      rw [hty] at c0 hv
      have HG : Hid (wr.heap[w.heap.size]? = some (.cells #[.slice none 0 0, .int .i64 0, .int .i64 0] 30 (0, 0)) ∧ wr.heap[w.heap.size + 1]? = some (.cells #[.slice (some ⟨b, off, none⟩) n c, .int .i64 d, .int .i64 m] 30 (0, 0))) := ⟨hg0, hg1⟩
      have e1 := cellC hg1 1
      have e2 := cellC hg1 2
      have fz := frzC hg1
      simp at e1 e2
      clear hc hp2 hp hg0 hg1 hty
      go_wp2_with fail
      refine (add_any (w.heap.size + 1) _ (.iface t y) d m wr hv hl1 e1 e2 fz).mono ?_
      rintro e w2 ⟨rfl, w1, d', m', rfl, hb1⟩
      have G0 : w1.heap[w.heap.size]? = some (.cells #[.slice none 0 0, .int .i64 0, .int .i64 0] 30 (0, 0)) := (hb1.block _ (by omega)).trans HG.out.1
      have G1 : w1.heap[w.heap.size + 1]? = some (.cells #[.slice (some ⟨b, off, none⟩) n c, .int .i64 d, .int .i64 m] 30 (0, 0)) := (hb1.block _ hl1).trans HG.out.2
      have K0 : Hid (((w1.setCell ⟨w.heap.size + 1, 1, none⟩ (.int .i64 d')).setCell ⟨w.heap.size + 1, 2, none⟩ (.int .i64 m')).heap[w.heap.size]? = some (.cells #[.slice none 0 0, .int .i64 0, .int .i64 0] 30 (0, 0))) := by
        show _ = _
        rw [heap_set_other (by simp), heap_set_other (by simp)]; exact G0
      have K1 : Hid (((w1.setCell ⟨w.heap.size + 1, 1, none⟩ (.int .i64 d')).setCell ⟨w.heap.size + 1, 2, none⟩ (.int .i64 m')).heap[w.heap.size + 1]? = some (.cells #[.slice (some ⟨b, off, none⟩) n c, .int .i64 d', .int .i64 m'] 30 (0, 0))) :=
        heap_setCell_same _ _ _ _ _ _ (heap_setCell_same _ _ _ _ _ _ G1)
      have K2 := ((hbel.trans (hb1.mono (by omega))).setCell (p := ⟨w.heap.size + 1, 1, none⟩) (by simp) (.int .i64 d')).setCell (p := ⟨w.heap.size + 1, 2, none⟩) (by simp) (.int .i64 m')
      clear G0 G1 HG e1 e2 fz c0 hv hb1 hbel
      go_wp2
      go_roundg (gk - 1)
      case measure => omega
      case rel => exact ⟨j + 1, d', m', by omega, by go_num, K0.out, K1.out, K2⟩
    · obtain rfl : n = j := by omega
      have e0 := cellC hg1 0
      have e1 := cellC hg1 1
      have e2 := cellC hg1 2
      have r0 := cellC hg0 0
      have r1 := cellC hg0 1
      have r2 := cellC hg0 2
      have fz := frzC hg0
      simp at e0 e1 e2 r0 r1 r2
      clear hg0 hg1
      go_wp2
      have q := three_set wr w.heap.size (.slice a n c) (.int .i64 d) (.int .i64 m) _ _ _ r0 r1 r2
      exact bodyPost_ret (v := .agg #[.slice a n c, .int .i64 d, .int .i64 m]) (results30 Try.results21 rfl q.1 q.2.1 q.2.2) rfl ⟨⟨d, m, rfl⟩, ((hbel.setCell (p := ⟨w.heap.size, 0, none⟩) (Nat.le_refl _) _).setCell (p := ⟨w.heap.size, 1, none⟩) (Nat.le_refl _) _).setCell (p := ⟨w.heap.size, 2, none⟩) (Nat.le_refl _) _⟩

theorem Try.info47 : (Try.prog.info? 47).map (fun i => (i.zero, i.size, i.bytes)) = some (some .nilIface, 1, 16) := by kernel_rfl

/-- The list of strings as values. -/
abbrev strV (F : Nat → ByteArray) (i : Nat) : Value := .iface 33 (.string (F i))

theorem valsAt_strs {w : World} {C : Array Value} {n m : Nat} {F : Nat → ByteArray} {t : TypeId} (h : ∀ i, i < n → C[i]? = some (strV F i)) : ValsAt ((w.alloc (.cells C t)).drewN m) (some ⟨w.heap.size, 0, none⟩) n (strV F) := by
  intro _
  exact ⟨w.heap.size, 0, rfl, by simp, fun i hi => ⟨by simpa using h i hi, .inl ⟨_, rfl⟩⟩⟩

theorem strs_setCell {w : World} {g n : Nat} {F : Nat → ByteArray} (h : ValsAt w (some ⟨g, 0, none⟩) n (strV F)) {q : Addr} (hq : q.block ≠ g) (v : Value) : ValsAt (w.setCell q v) (some ⟨g, 0, none⟩) n (strV F) := by
  intro h0
  obtain ⟨b, off, e, hl, hc⟩ := h h0
  simp at e
  obtain ⟨rfl, rfl⟩ := e
  exact ⟨g, 0, rfl, by simpa [World.setCell] using hl, fun i hi => ⟨(World.cell?_setCell_other _ _ _ _ (fun e => hq (by rw [e]))).trans (hc i hi).1, .inl ⟨_, rfl⟩⟩⟩

theorem set_fill {C : Array Value} {n j : Nat} {V : Nat → Value} (hs : C.size = n) (hj : j < n) (h : ∀ i, i < j → C[i]? = some (V i)) : ∀ i, i < j + 1 → (C.setIfInBounds j (V j))[i]? = some (V i) := by
  intro i hi
  rw [Array.getElem?_setIfInBounds]
  by_cases e : j = i
  · subst e; rw [if_pos rfl, if_pos (by omega)]
  · rw [if_neg e]; exact h i (by omega)

def RetStrs (e : Ending) (w : World) (n : Nat) (F : Nat → ByteArray) : Prop := ∃ a i x, e = .returned (.agg #[.slice a n n, .int .i64 i, .int .i64 x]) ∧ ValsAt w a n (strV F)

set_option maxHeartbeats 400000 in
theorem stringList_any (a0 : Option Addr) (n cap : Nat) (F : Nat → ByteArray) (w : World) (hn : n ≤ 1048576) (hp : StrsAt w a0 n F) :
    Calls Try.prog 9 #[.slice a0 n cap] w fun e w' => RetStrs e w' n F ∧ Below w.heap.size w w' := by
  have hmk := make_any (P := Try.prog) 26 47 _ 1 16 Try.underlying26 Try.info47 .i64 .i64 n (by omega) (by omega)
  obtain ⟨C0, hC0⟩ : ∃ C0, C0 = madeCells (Value.nilIface).cells (n * 1) := ⟨_, rfl⟩
  have HC0 : Hid (C0.size = n) := by rw [hC0]; exact (size_madeCells _ _).trans (Nat.mul_one _)
  rw [← hC0] at hmk
  clear hC0
  go_enter Try.func9, Try.ntmps9
  go_wp2
  clear hmk
  go_loopg [4, 5, 11] n (fun k u v i wr => ∃ (j : Nat) (C : Array Value), k + j = n ∧ i = .int .i64 j ∧ wr = (w.alloc (.cells #[.slice none 0 0, .int .i64 0, .int .i64 0] 30)).alloc (.cells C 47) ∧ C.size = n ∧ ∀ i, i < j → C[i]? = some (strV F i))
  case atStart => exact ⟨0, C0, by omega, rfl, rfl, HC0.out, fun i hi => by omega⟩
  case round =>
    obtain ⟨j, C, hk, rfl, rfl, hCs, hC⟩ := hrel
    by_cases hlt : j < n
    · obtain ⟨b, off, rfl, hb, hc⟩ := hp (by omega)
      have c0 := hc j hlt
      obtain ⟨x0, hx0⟩ : ∃ x, C[j]? = some x := ⟨_, Array.getElem?_eq_getElem (by omega)⟩
      have HC : Hid (C.size = n ∧ ∀ i, i < j → C[i]? = some (strV F i)) := ⟨hCs, hC⟩
      have hb2 : b < w.heap.size + 1 := by omega
      clear hc hp hCs hC
      go_wp2
      go_roundg (gk - 1)
      case measure => omega
      case rel => exact ⟨j + 1, _, by omega, by go_num, rfl, by simpa using HC.out.1, fun i hi => set_fill HC.out.1 hlt HC.out.2 i hi⟩
    · obtain rfl : n = j := by omega
      have hv : ValsAt ((w.alloc (.cells #[.slice none 0 0, .int .i64 0, .int .i64 0] 30)).alloc (.cells C 47)) (some ⟨w.heap.size + 1, 0, none⟩) n (strV F) := by
        rw [← show (w.alloc (.cells #[.slice none 0 0, .int .i64 0, .int .i64 0] 30)).heap.size = w.heap.size + 1 by simp]
        exact valsAt_strs (m := 0) hC
      clear hC
      go_wp2_with fail
      refine (newList_any _ n n (strV F) _ hn hv).mono ?_
      rintro e w1 ⟨⟨i, x, rfl⟩, hb1⟩
      have hg0 : w1.heap[w.heap.size]? = some (.cells #[.slice none 0 0, .int .i64 0, .int .i64 0] 30 (0, 0)) := by
        rw [hb1.block _ (by simp; omega)]
        rw [Below.heap_alloc _ _ _ (by simp)]; exact heap_alloc_new _ _
      have hv1 := hv.later hb1
      have hbel : Below w.heap.size w w1 := (((Below.refl _ _).alloc (Nat.le_refl _) _).alloc (by simp) _).trans (hb1.mono (by simp; omega))
      have r0 := cellC hg0 0
      have r1 := cellC hg0 1
      have r2 := cellC hg0 2
      have fz := frzC hg0
      simp at r0 r1 r2
      clear hv hb1 hg0
      go_wp2
      have q := three_set w1 w.heap.size (.slice (some ⟨w.heap.size + 1, 0, none⟩) n n) (.int .i64 i) (.int .i64 x) _ _ _ r0 r1 r2
      exact bodyPost_ret (v := .agg #[.slice (some ⟨w.heap.size + 1, 0, none⟩) n n, .int .i64 i, .int .i64 x]) (results30 Try.results9 rfl q.1 q.2.1 q.2.2) rfl
        ⟨⟨_, i, x, rfl, strs_setCell (strs_setCell (strs_setCell hv1 (q := ⟨w.heap.size, 0, none⟩) (by simp) _) (q := ⟨w.heap.size, 1, none⟩) (by simp) _) (q := ⟨w.heap.size, 2, none⟩) (by simp) _⟩, ((hbel.setCell (p := ⟨w.heap.size, 0, none⟩) (Nat.le_refl _) _).setCell (p := ⟨w.heap.size, 1, none⟩) (Nat.le_refl _) _).setCell (p := ⟨w.heap.size, 2, none⟩) (Nat.le_refl _) _⟩
end Go.Proofs.Qxb6609148a
