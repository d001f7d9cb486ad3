/- Small contracts of the third law. -/
import Derived.Test.Qxb6614451aW5
namespace Go.Proofs.Qxb6614451a
open Go.RowKit

theorem Try.underlying39 : Try.prog.underlying 39 = some (.slice 42) := by kernel_rfl
theorem Try.info42 : (Try.prog.info? 42).map (fun i => (i.zero, i.size, i.bytes)) = some (some (.agg #[.int .i32 0, .int .i32 0, .int .i32 0, .int .i32 0, .int .i32 0, .int .i32 0, .int .i32 0, .bool false, .bool false, .bool false, .bool false]), 11, 32) := by kernel_rfl

theorem zzBytes14 (a : Option Addr) (n cap : Nat) (b : Option Addr) (m cap2 : Nat) (v1 v2 v3 v4 v5 v6 v7 v9 : Value) (w : World) (hn : n ≤ 9223372036854775807) (hm : m ≤ 9223372036854775807) : Calls Try.prog 14 #[.slice a n cap, v1, v2, v3, v4, v5, v6, v7, .slice b m cap2, v9] w fun e w' => (∃ r, e = .returned (.bool r)) ∧ w = w' := by
  go_enter Try.func14, Try.ntmps14
  go_wp2
  all_goals (go_ret; exact ⟨⟨_, rfl⟩, rfl⟩)

theorem results47 {f : Func} {t : Nat} {tmps : Array Value} {w : World} {b : Nat} {v0 v1 v2 v3 : Value} (hf : f.results = #[.cell t 47]) (ht : tmps.getD t undef = .pointer (some ⟨b, 0, none⟩))
    (h0 : w.cell? ⟨b, 0, none⟩ = some v0) (h1 : w.cell? ⟨b, 1, none⟩ = some v1) (h2 : w.cell? ⟨b, 2, none⟩ = some v2) (h3 : w.cell? ⟨b, 3, none⟩ = some v3) :
    (results f tmps).run Try.prog w = .ok (.agg #[v0, v1, v2, v3]) w := by
  have e : (results f tmps).run Try.prog w = ((asAddr (tmps.getD t undef)).run Try.prog w).andThen fun a w₁ => (loadVar 47 a).run Try.prog w₁ := by
    simp only [results, hf]
    simp [Sem.run_bind, Result.andThen]
  rw [e, ht]
  simp [go_sem, h0, h1, h2, h3]

theorem results42 {f : Func} {t : Nat} {tmps : Array Value} {w : World} {b : Nat} {v0 v1 v2 v3 v4 v5 v6 v7 v8 v9 v10 : Value} (hf : f.results = #[.cell t 42]) (ht : tmps.getD t undef = .pointer (some ⟨b, 0, none⟩))
    (hh : w.heap[b]? = some (.cells #[v0, v1, v2, v3, v4, v5, v6, v7, v8, v9, v10] 42 (0, 0))) :
    (results f tmps).run Try.prog w = .ok (.agg #[v0, v1, v2, v3, v4, v5, v6, v7, v8, v9, v10]) w := by
  have e : (results f tmps).run Try.prog w = ((asAddr (tmps.getD t undef)).run Try.prog w).andThen fun a w₁ => (loadVar 42 a).run Try.prog w₁ := by
    simp only [results, hf]
    simp [Sem.run_bind, Result.andThen]
  rw [e, ht]
  have h0 : w.cell? ⟨b, 0, none⟩ = some v0 := cellC hh 0
  have h1 : w.cell? ⟨b, 1, none⟩ = some v1 := cellC hh 1
  have h2 : w.cell? ⟨b, 2, none⟩ = some v2 := cellC hh 2
  have h3 : w.cell? ⟨b, 3, none⟩ = some v3 := cellC hh 3
  have h4 : w.cell? ⟨b, 4, none⟩ = some v4 := cellC hh 4
  have h5 : w.cell? ⟨b, 5, none⟩ = some v5 := cellC hh 5
  have h6 : w.cell? ⟨b, 6, none⟩ = some v6 := cellC hh 6
  have h7 : w.cell? ⟨b, 7, none⟩ = some v7 := cellC hh 7
  have h8 : w.cell? ⟨b, 8, none⟩ = some v8 := cellC hh 8
  have h9 : w.cell? ⟨b, 9, none⟩ = some v9 := cellC hh 9
  have h10 : w.cell? ⟨b, 10, none⟩ = some v10 := cellC hh 10
  simp [go_sem, h0, h1, h2, h3, h4, h5, h6, h7, h8, h9, h10]

theorem zzlinkOf (w : World) (c t m x : Int) : Calls Try.prog 18 #[.int .i32 c, .int .i32 t, .int .i32 m, .int .i32 x] w fun e w' => e = .returned (.agg #[.int .i32 c, .int .i32 t, .int .i32 m, .int .i32 x]) ∧ Below w.heap.size w w' := by
  go_enter Try.func18, Try.ntmps18
  go_wp2
  exact bodyPost_ret (v := .agg #[.int .i32 c, .int .i32 t, .int .i32 m, .int .i32 x]) (results47 (b := w.heap.size) rfl rfl (cellC (heap_alloc_new w _) 0) (cellC (heap_alloc_new w _) 1) (cellC (heap_alloc_new w _) 2) (cellC (heap_alloc_new w _) 3)) rfl ⟨rfl, (Below.refl _ _).alloc (Nat.le_refl _) _⟩

theorem zzmember (w : World) (t : Int) (p r : Bool) (h ht hd : Int) : Calls Try.prog 16 #[.int .i32 t, .bool p, .bool r, .int .i32 h, .int .i32 ht, .int .i32 hd] w fun e w' => e = .returned (.agg #[.int .i32 0, .int .i32 t, .int .i32 0, .int .i32 h, .int .i32 ht, .int .i32 hd, .int .i32 0, .bool false, .bool p, .bool r, .bool false]) ∧ Below w.heap.size w w' := by
  go_enter Try.func16, Try.ntmps16
  go_wp2
  exact bodyPost_ret (v := .agg #[.int .i32 0, .int .i32 t, .int .i32 0, .int .i32 h, .int .i32 ht, .int .i32 hd, .int .i32 0, .bool false, .bool p, .bool r, .bool false]) (results42 (b := w.heap.size) rfl rfl (heap_alloc_new w _)) rfl ⟨rfl, (Below.refl _ _).alloc (Nat.le_refl _) _⟩

theorem zzmakeMembers (w : World) (n : Nat) (hn : n ≤ 1048576) : Calls Try.prog 15 #[.int .i64 n] w fun e w' => e = .returned (.slice (some ⟨w.heap.size, 0, none⟩) n n) ∧ ∃ C, w' = w.alloc (.cells C 42) ∧ C.size = n * 11 := by
  have hmk := make_cap (P := Try.prog) 39 42 _ 11 32 Try.underlying39 Try.info42 .i64 .i64 n n (Nat.le_refl _) (by omega) (by omega)
  go_enter Try.func15, Try.ntmps15
  go_wp2
  go_ret
  exact ⟨rfl, _, rfl, size_madeCells _ _⟩

theorem zzmakeLinks (w : World) (n : Nat) (hn : n ≤ 1048576) : Calls Try.prog 17 #[.int .i64 n] w fun e w' => e = .returned (.slice (some ⟨w.heap.size, 0, none⟩) n n) ∧ ∃ C, w' = w.alloc (.cells C 47) ∧ C.size = n * 4 := by
  have hmk := make_cap (P := Try.prog) 44 47 _ 4 16 Try.underlying44 Try.info47 .i64 .i64 n n (Nat.le_refl _) (by omega) (by omega)
  go_enter Try.func17, Try.ntmps17
  go_wp2
  go_ret
  exact ⟨rfl, _, rfl, size_madeCells _ _⟩

theorem zzgraphOf (w : World) (a b c : Option Addr) (n m l : Nat) (s : Int) : Calls Try.prog 19 #[.slice a n n, .slice b m m, .slice c l l, .int .i32 s] w fun e w' => e = .returned (.pointer (some ⟨w.heap.size + 1, 0, none⟩)) ∧
    ∃ R G, w' = (w.alloc (.cells R 71)).alloc (.cells G 64) ∧ R.size = 10 ∧ R[0]? = some (.slice b m m) ∧ G.size = 23 ∧ G[0]? = some (.pointer (some ⟨w.heap.size, 0, none⟩)) ∧ G[6]? = some (.slice a n n) ∧ G[12]? = some (.slice c l l) ∧ G[13]? = some (.int .i32 s) := by
  go_enter Try.func19, Try.ntmps19
  go_wp2
  go_ret
  exact ⟨rfl, _, _, rfl, rfl, rfl, rfl, rfl, rfl, rfl, rfl⟩

/-- The slice that the closure gathers, in its own variable. -/
structure Got (w : World) (bv B : Nat) (m : Nat) (wf : Nat → Int) (v : Value) : Prop where
  head : w.heap[bv]? = some (.cells #[v] 26 (0, 0))
  row : ∃ xs, w.ownsRow B 21 1 v m xs ∧ ∀ k, k < m → xs[k]? = some (.int .i32 (wf k))
  lt : bv < B
  le : B ≤ w.heap.size

set_option maxHeartbeats 400000 in
theorem closure30 (w : World) (bv B m : Nat) (wf : Nat → Int) (v : Value) (h : Got w bv B m wf v) (hm : m < 1048576) (c : Int) :
    Calls Try.prog 30 #[.int .i32 c, .pointer (some ⟨bv, 0, none⟩)] w fun e w' => e = .returned (.tuple #[]) ∧ (∃ v', Got w' bv B (m + 1) (upd wf m c) v') ∧ Off w w' bv v.ownBlock := by
  obtain ⟨xs, ho, hx⟩ := h.row
  obtain ⟨i0, hi, hz0, hz1, hz2⟩ := info_parts Try.info21
  have c0 : w.cell? ⟨bv, 0, none⟩ = some v := cellC h.head 0
  have f0 := frzC h.head 0
  have hlt := lt_of_heap h.head
  have hG : Hid (Got w bv B m wf v) := h
  have hO : Hid _ := ho
  have hX : Hid _ := hx
  have hvl : Hid (∀ k, v.ownBlock = some k → B ≤ k ∧ k < w.heap.size) := ho.lt
  clear h ho hx
  go_enter Try.func30, Try.ntmps30
  go_wp2_with (at_builtin; refine wpList_append_lies _ rfl (.tmp 3) (.tmp 5) 26 rfl B 21 i0 (.int .i32 0) 1 4 Try.underlying26 hi hz0 hz1 hz2 rfl (by decide) v m xs rfl (World.ownsRow.alloc hO _) ⟨w.heap.size, 0, none⟩ 1 1 [.int .i32 c] rfl rfl ?c1 ?c2 (by decide) ?c3 ?c4 ?c5 _ rfl ?_)
  case c1 => exact new_one_at rfl
  case c2 => exact one_cell
  case c3 => unfold maxLen; omega
  case c4 => omega
  case c5 => have : B ≤ w.heap.size := hG.out.le; simp; omega
  intro lb lcap w1 hown1 hgrow1 hat1 hlt1
  have hne : some bv ≠ v.ownBlock := fun e => by have := hvl.out bv e.symm; have := hG.out.lt; omega
  have hh : w1.heap[bv]? = some (.cells #[v] 26 (0, 0)) := (hgrow1.block bv (by simp; omega) hne).trans ((heap_alloc_old _ _ hlt).trans hG.out.head)
  have d0 : w1.cell? ⟨bv, 0, none⟩ = some v := cellC hh 0
  have d1 := frzC hh 0
  have HO : Hid (Off w w1 bv v.ownBlock) := ((Off.refl w bv _).alloc _).trans (Off.ofGrown hgrow1) (fun k hk => .inl hk)
  have HW : Hid _ := hown1
  have HH : Hid _ := hh
  have Hs : Hid (w.heap.size ≤ w1.heap.size) := HO.out.size
  have Hlb : Hid (lb ≠ bv) := by
    have h1 := (hown1.lt lb rfl).1
    have h2 := hG.out.lt
    show lb ≠ bv
    omega
  clear hown1 hgrow1 hat1 hh c0 f0
  go_wp2
  refine bodyPost_end (results_none rfl _ _ _) rfl ⟨rfl, ⟨_, heap_setCell_same w1 bv 0 _ 26 _ HH.out, ⟨_, ownsRow_same HW (fun g hg => heap_setCell_other _ _ _ _ (fun e => Hlb.out (by simp [Value.ownBlock] at hg; simp at e; omega))), ?_⟩, hG.out.lt, ?_⟩, HO.out.setg 0 _⟩
  · have hl : xs.length = m := by have := (And.left hO : xs.length = m * 1); omega
    intro k hk
    by_cases hkm : k = m
    · subst hkm; simp [upd, ← hl]
    · rw [List.getElem?_append_left (by omega), hX.out k (by omega)]; simp [upd, hkm]
  · have := hG.out.le; have := Hs.out; simp; omega

/-- A row that is nil, or another's, or the call's: its elements. -/
def Ints (w : World) (v : Value) (n : Nat) (h : Nat → Int) : Prop := ∃ a c, v = .slice a n c ∧ (0 < n → ∃ b off, a = some ⟨b, off, none⟩ ∧ ∀ k, k < n → w.cell? ⟨b, off + k, none⟩ = some (.int .i32 (h k)))

theorem sameInt32s_eq (w : World) (v v' : Value) (n : Nat) (h : Nat → Int) (hn : n ≤ 9223372036854775807) (h1 : Ints w v n h) (h2 : Ints w v' n h) : Calls Try.prog 21 #[v, v'] w fun e w' => e = .returned (.bool true) ∧ Below w.heap.size w w' := by
  obtain ⟨a, c, rfl, ha⟩ := h1
  obtain ⟨a', c', rfl, ha'⟩ := h2
  go_enter Try.func21, Try.ntmps21
  go_wp2
  go_loopg [5] n (fun k i wr => ∃ j : Nat, k + j = n ∧ i = .int .i64 j ∧ Below w.heap.size w wr)
  case atStart => exact ⟨0, by omega, rfl, Below.refl _ _⟩
  case round =>
    obtain ⟨j, hk, rfl, hbel⟩ := hrel
    by_cases hj : j < n
    · obtain ⟨b, off, rfl, hb⟩ := ha (by omega)
      obtain ⟨b', off', rfl, hb'⟩ := ha' (by omega)
      have q1 := (hbel.cell (p := ⟨b, off + j, none⟩) (World.block_lt_of_cell? w _ (hb j hj))).trans (hb j hj)
      have q2 := (hbel.cell (p := ⟨b', off' + j, none⟩) (World.block_lt_of_cell? w _ (hb' j hj))).trans (hb' j hj)
      have HB : Hid _ := hbel
      clear ha ha' hb hb' hbel
      go_wp2
      go_quiet (fail)
      go_wp2
      go_roundg (gk - 1)
      case measure => omega
      case rel => exact ⟨j + 1, by omega, by go_num, HB.out.trans (below_drewN _)⟩
    · go_wp2
      go_ret
      exact ⟨rfl, hbel⟩
end Go.Proofs.Qxb6614451a
