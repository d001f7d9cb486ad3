/- Made, MadeWhole, ZZpair. -/
import Derived.Test.Qxb6609148aW3
namespace Go.Proofs.Qxb6609148a
open Go.RowKit

set_option maxRecDepth 8000 in
set_option maxHeartbeats 400000 in
theorem made_str (s : ByteArray) (w : World) (hs : s.size ≤ 1048576) :
    Calls Try.prog 10 #[.iface 33 (.string s)] w fun e w' => e = .returned (.int .i64 (1 + s.size : Nat)) ∧ w = w' := by
  have q1 := is33_30
  have q2 := is33_51
  have q3 := is33_55
  have q4 := is33_33
  go_enter Try.func10, Try.ntmps10
  go_wp2
  go_ret
  exact ⟨ret_i64 (by omega), rfl⟩

set_option maxRecDepth 8000 in
set_option maxHeartbeats 400000 in
theorem made_list (a : Option Addr) (n c : Nat) (i x : Int) (w : World) (hn : n ≤ 1048576) :
    Calls Try.prog 10 #[.iface 30 (.agg #[.slice a n c, .int .i64 i, .int .i64 x])] w fun e w' => e = .returned (.int .i64 (1 + n : Nat)) ∧ Below w.heap.size w w' := by
  have q1 := is30_30
  go_enter Try.func10, Try.ntmps10
  go_wp2
  go_ret
  exact ⟨ret_i64 (by omega), ((Below.refl _ _).alloc (Nat.le_refl _) _).alloc (by simp) _⟩

set_option maxRecDepth 8000 in
set_option maxHeartbeats 400000 in
theorem made_int (p : Option Addr) (a : Nat) (w : World) (ha : a < 18446744073709551616) (hp : IntAt w p a) :
    Calls Try.prog 10 #[.iface 36 (.agg #[.pointer p])] w fun e w' => (∃ mm : Nat, e = .returned (.int .i64 (1 + mm : Nat)) ∧ Mag a mm ∧ mm ≤ 8) ∧ Below w.heap.size w w' := by
  have q1 := is36_30
  have q2 := is36_51
  have q3 := is36_55
  have q4 := is36_33
  have q5 := is36_36
  go_enter Try.func10, Try.ntmps10
  go_wp2_with fail
  have hb0 : Below w.heap.size w (w.alloc (.cells #[.pointer p] 36)) := (Below.refl _ _).alloc (Nat.le_refl _) _
  refine (big_any p a _ (hp.later hb0)).mono ?_
  rintro e w1 ⟨rfl, hb1⟩
  go_wp2_with fail
  refine (magnitude_any p a _ ha ((hp.later hb0).later hb1)).mono ?_
  rintro e w2 ⟨⟨mm, rfl, hM, h8⟩, rfl⟩
  go_wp2
  go_ret
  exact ⟨⟨mm, ret_i64 (by omega), hM, h8⟩, hb0.trans (hb1.mono (by simp))⟩

set_option maxRecDepth 8000 in
set_option maxHeartbeats 400000 in
theorem addMade_str (m : Nat) (s : ByteArray) (w : World) (hs : s.size ≤ 1048576) (hm : m + 1 + s.size ≤ 16777216) :
    Calls Try.prog 27 #[.int .i64 m, .iface 33 (.string s)] w fun e w' => e = .returned (.int .i64 (m + 1 + s.size : Nat)) ∧ w = w' := by
  have q1 := is33_30
  have q2 := is33_51
  go_enter Try.func27, Try.ntmps27
  go_wp2_with fail
  refine (made_str s w hs).mono ?_
  rintro e w1 ⟨rfl, rfl⟩
  go_wp2
  go_ret
  exact ⟨ret_i64 (by omega), rfl⟩

set_option maxRecDepth 8000 in
set_option maxHeartbeats 400000 in
theorem addMade_int (m : Nat) (p : Option Addr) (a : Nat) (w : World) (ha : a < 18446744073709551616) (hp : IntAt w p a) (hm : m ≤ 8388608) :
    Calls Try.prog 27 #[.int .i64 m, .iface 36 (.agg #[.pointer p])] w fun e w' => (∃ mm : Nat, e = .returned (.int .i64 (m + 1 + mm : Nat)) ∧ Mag a mm ∧ mm ≤ 8) ∧ Below w.heap.size w w' := by
  have q1 := is36_30
  have q2 := is36_51
  go_enter Try.func27, Try.ntmps27
  go_wp2_with fail
  refine (made_int p a w ha hp).mono ?_
  rintro e w1 ⟨⟨mm, rfl, hM, h8⟩, hb⟩
  go_wp2
  go_ret
  exact ⟨⟨mm, ret_i64 (by omega), hM, h8⟩, hb⟩

set_option maxRecDepth 8000 in
set_option maxHeartbeats 400000 in
theorem addMade_strs (m : Nat) (a : Option Addr) (n c : Nat) (i x : Int) (F : Nat → ByteArray) (w : World) (hn : n ≤ 65536) (hF : ∀ i, i < n → (F i).size ≤ 1048576) (hS : sumTo F n ≤ 1048576) (hm : m ≤ 1000) (hp : ValsAt w a n (strV F)) :
    Calls Try.prog 27 #[.int .i64 m, .iface 30 (.agg #[.slice a n c, .int .i64 i, .int .i64 x])] w fun e w' => e = .returned (.int .i64 (m + 1 + 2 * n + sumTo F n : Nat)) ∧ Below w.heap.size w w' := by
  have q1 := is30_30
  go_enter Try.func27, Try.ntmps27
  go_wp2_with fail
  refine (made_list a n c i x w (by omega)).mono ?_
  rintro e w1 ⟨rfl, hb⟩
  have hp1 := hp.later hb
  have hs1 := hb.size
  clear hp
  go_wp2
  have hb2 : Below w1.heap.size w1 (w1.alloc (.cells #[.slice a n c, .int .i64 i, .int .i64 x] 30)) := (Below.refl _ _).alloc (Nat.le_refl _) _
  have hp2 := hp1.later hb2
  clear hp1
  go_loopg [0, 7, 22] n (fun k t u v wr => ∃ j N : Nat, k + j = n ∧ v = .int .i64 j ∧ t = .int .i64 N ∧ Hid (N = m + 1 + n + j + sumTo F j) ∧ wr = w1.alloc (.cells #[.slice a n c, .int .i64 i, .int .i64 x] 30))
  case atStart => exact ⟨0, m + 1 + n, by omega, rfl, by go_num, rfl, rfl⟩
  case round =>
    obtain ⟨j, N, hk, rfl, rfl, hN, rfl⟩ := hrel
    by_cases hlt : j < n
    · obtain ⟨b, off, rfl, hl, hc⟩ := hp2 (by omega)
      have c0 := (hc j hlt).1
      have hs := hF j hlt
      have h1 := sumTo_mono F (show j + 1 ≤ n by omega)
      have h2 := sumTo_mono F (show j ≤ n by omega)
      rw [sumTo] at h1
      have hN1 : N + 1 + (F j).size ≤ 16777216 := by rw [hN.out]; omega
      have hN2 : N + 1 + (F j).size = m + 1 + n + (j + 1) + sumTo F (j + 1) := by rw [hN.out, sumTo]; omega
      have HN : Hid (N + 1 + (F j).size = m + 1 + n + (j + 1) + sumTo F (j + 1)) := hN2
      clear hc hp2 hF hN2
      go_wp2_with fail
      refine (addMade_str N (F j) _ hs hN1).mono ?_
      rintro e w2 ⟨rfl, rfl⟩
      go_wp2
      go_roundg (gk - 1)
      case measure => omega
      case rel => exact ⟨j + 1, N + 1 + (F j).size, by omega, by go_num, rfl, HN, rfl⟩
    · obtain rfl : n = j := by omega
      have hN1 : N ≤ 16777216 := by rw [hN.out]; omega
      have HN : Hid (N = m + 1 + 2 * n + sumTo F n) := by show N = _; rw [hN.out]; omega
      go_wp2
      go_ret
      exact ⟨ret_i64 (by rw [← HN.out]; omega), hb.trans (hb2.mono hs1)⟩

set_option maxRecDepth 8000 in
set_option maxHeartbeats 400000 in
theorem addMade_pair (g n c1 c2 : Nat) (a : Option Addr) (i x i2 x2 : Int) (F : Nat → ByteArray) (p : Option Addr) (ab : Nat) (w : World) (hn : n ≤ 65536) (hF : ∀ i, i < n → (F i).size ≤ 1048576) (hS : sumTo F n ≤ 1048576) (hp : ValsAt w a n (strV F)) (ha : ab < 18446744073709551616) (hi : IntAt w p ab)
    (hg : g < w.heap.size) (e0 : w.cell? ⟨g, 0, none⟩ = some (.iface 30 (.agg #[.slice a n c1, .int .i64 i, .int .i64 x]))) (e1 : w.cell? ⟨g, 1, none⟩ = some (.iface 36 (.agg #[.pointer p]))) :
    Calls Try.prog 27 #[.int .i64 0, .iface 30 (.agg #[.slice (some ⟨g, 0, none⟩) 2 c2, .int .i64 i2, .int .i64 x2])] w fun e w' => (∃ mm : Nat, e = .returned (.int .i64 (3 + (1 + 2 * n + sumTo F n) + 1 + mm : Nat)) ∧ Mag ab mm ∧ mm ≤ 8) ∧ Below w.heap.size w w' := by
  have q1 := is30_30
  go_enter Try.func27, Try.ntmps27
  go_wp2_with fail
  refine (made_list (some ⟨g, 0, none⟩) 2 c2 i2 x2 w (by omega)).mono ?_
  rintro e w1 ⟨rfl, hb⟩
  have hs1 := hb.size
  have d0 := (hb.cell (p := ⟨g, 0, none⟩) hg).trans e0
  have d1 := (hb.cell (p := ⟨g, 1, none⟩) hg).trans e1
  have hb2 : Below w1.heap.size w1 (w1.alloc (.cells #[.slice (some ⟨g, 0, none⟩) 2 c2, .int .i64 i2, .int .i64 x2] 30)) := (Below.refl _ _).alloc (Nat.le_refl _) _
  have hg1 : g < w1.heap.size := by omega
  clear e0 e1
  go_wp2
  refine wp_loop_rounds 3 ?_
  rw [rounds_succ]
  go_wp2_with fail
  refine (addMade_strs 3 a n c1 i x F _ hn hF hS (by omega) ((hp.later hb).later hb2)).mono ?_
  rintro e w3 ⟨rfl, hb3⟩
  have hb4 := hb2.trans (hb3.mono (by simp))
  have g1 := (hb4.cell (p := ⟨g, 1, none⟩) hg1).trans d1
  have hi4 := ((hi.later hb).later hb4)
  obtain ⟨N, hN⟩ : ∃ N, N = 3 + 1 + 2 * n + sumTo F n := ⟨_, rfl⟩
  have hN1 : N ≤ 8388608 := by omega
  have HN : Hid (N = 3 + 1 + 2 * n + sumTo F n) := hN
  rw [← hN]
  clear hN d0 d1
  go_wp2_with fail
  rw [rounds_succ]
  go_wp2_with fail
  refine (addMade_int N p ab w3 ha hi4 hN1).mono ?_
  rintro e w5 ⟨⟨mm, rfl, hM, h8⟩, hb5⟩
  clear g1
  go_wp2_with fail
  rw [rounds_succ]
  go_wp2
  go_ret
  have hs4 := hb4.size
  exact ⟨⟨mm, ret_i64 (by rw [HN.out]; omega), hM, h8⟩, hb.trans ((hb4.mono hs1).trans (hb5.mono (by omega)))⟩

set_option maxHeartbeats 400000 in
theorem madeWhole_strs (a : Option Addr) (n c : Nat) (i x : Int) (F : Nat → ByteArray) (w : World) (hn : n ≤ 65536) (hF : ∀ i, i < n → (F i).size ≤ 1048576) (hS : sumTo F n ≤ 1048576) (hp : ValsAt w a n (strV F)) :
    Calls Try.prog 11 #[.iface 30 (.agg #[.slice a n c, .int .i64 i, .int .i64 x])] w fun e w' => e = .returned (.int .i64 (1 + 2 * n + sumTo F n : Nat)) ∧ Below w.heap.size w w' := by
  go_enter Try.func11, Try.ntmps11
  go_wp2_with fail
  refine (addMade_strs 0 a n c i x F w hn hF hS (by omega) hp).mono ?_
  rintro e w1 ⟨rfl, hb⟩
  go_wp2
  go_ret
  exact ⟨ret_i64 (by omega), hb⟩

set_option maxHeartbeats 400000 in
theorem madeWhole_pair (g n c1 c2 : Nat) (a : Option Addr) (i x i2 x2 : Int) (F : Nat → ByteArray) (p : Option Addr) (ab : Nat) (w : World) (hn : n ≤ 65536) (hF : ∀ i, i < n → (F i).size ≤ 1048576) (hS : sumTo F n ≤ 1048576) (hp : ValsAt w a n (strV F)) (ha : ab < 18446744073709551616) (hi : IntAt w p ab)
    (hg : g < w.heap.size) (e0 : w.cell? ⟨g, 0, none⟩ = some (.iface 30 (.agg #[.slice a n c1, .int .i64 i, .int .i64 x]))) (e1 : w.cell? ⟨g, 1, none⟩ = some (.iface 36 (.agg #[.pointer p]))) :
    Calls Try.prog 11 #[.iface 30 (.agg #[.slice (some ⟨g, 0, none⟩) 2 c2, .int .i64 i2, .int .i64 x2])] w fun e w' => (∃ mm : Nat, e = .returned (.int .i64 (3 + (1 + 2 * n + sumTo F n) + 1 + mm : Nat)) ∧ Mag ab mm ∧ mm ≤ 8) ∧ Below w.heap.size w w' := by
  go_enter Try.func11, Try.ntmps11
  go_wp2_with fail
  refine (addMade_pair g n c1 c2 a i x i2 x2 F p ab w hn hF hS hp ha hi hg e0 e1).mono ?_
  rintro e w1 ⟨⟨mm, rfl, hM, h8⟩, hb⟩
  go_wp2
  go_ret
  exact ⟨⟨mm, rfl, hM, h8⟩, hb⟩

/-- A pair list that ZZpair makes: its two values lie at the head of a block. -/
def RetPair (e : Ending) (w : World) (v0 v1 : Value) : Prop := ∃ g i x, e = .returned (.agg #[.slice (some ⟨g, 0, none⟩) 2 2, .int .i64 i, .int .i64 x]) ∧ g < w.heap.size ∧ w.cell? ⟨g, 0, none⟩ = some v0 ∧ w.cell? ⟨g, 1, none⟩ = some v1

set_option maxHeartbeats 400000 in
theorem ZZpair_any (t0 t1 : TypeId) (y0 y1 : Value) (w : World) (h0 : ValAt w (.iface t0 y0)) (h1 : ValAt w (.iface t1 y1)) :
    Calls Try.prog 13 #[.iface t0 y0, .iface t1 y1] w fun e w' => RetPair e w' (.iface t0 y0) (.iface t1 y1) ∧ Below w.heap.size w w' := by
  go_enter Try.func13, Try.ntmps13
  go_wp2_with fail
  have hb0 : Below w.heap.size w ((w.alloc (.cells #[.slice none 0 0, .int .i64 0, .int .i64 0] 30)).alloc (.cells #[.iface t0 y0, .iface t1 y1] 47)) := ((Below.refl _ _).alloc (Nat.le_refl _) _).alloc (by simp) _
  have k0 : ((w.alloc (.cells #[.slice none 0 0, .int .i64 0, .int .i64 0] 30)).alloc (.cells #[.iface t0 y0, .iface t1 y1] 47)).cell? ⟨w.heap.size + 1, 0, none⟩ = some (.iface t0 y0) := by simp [go_sem]
  have k1 : ((w.alloc (.cells #[.slice none 0 0, .int .i64 0, .int .i64 0] 30)).alloc (.cells #[.iface t0 y0, .iface t1 y1] 47)).cell? ⟨w.heap.size + 1, 1, none⟩ = some (.iface t1 y1) := by simp [go_sem]
  have hv : ValsAt ((w.alloc (.cells #[.slice none 0 0, .int .i64 0, .int .i64 0] 30)).alloc (.cells #[.iface t0 y0, .iface t1 y1] 47)) (some ⟨w.heap.size + 1, 0, none⟩) 2 (fun i => if i = 0 then .iface t0 y0 else .iface t1 y1) := by
    intro _
    refine ⟨w.heap.size + 1, 0, rfl, by simp, fun i hi => ?_⟩
    by_cases e : i = 0
    · subst e; exact ⟨k0, h0.later hb0⟩
    · obtain rfl : i = 1 := by omega
      exact ⟨k1, h1.later hb0⟩
  refine (newList_any _ 2 2 _ _ (by omega) hv).mono ?_
  rintro e w1 ⟨⟨i, x, rfl⟩, hb1⟩
  have hg0 : w1.heap[w.heap.size]? = some (.cells #[.slice none 0 0, .int .i64 0, .int .i64 0] 30 (0, 0)) := by
    rw [hb1.block _ (by simp; omega)]
    rw [Below.heap_alloc _ _ _ (by simp)]; exact heap_alloc_new _ _
  have d0 := (hb1.cell (p := ⟨w.heap.size + 1, 0, none⟩) (by simp)).trans k0
  have d1 := (hb1.cell (p := ⟨w.heap.size + 1, 1, none⟩) (by simp)).trans k1
  have hsz : w.heap.size + 1 < w1.heap.size := by have := hb1.size; simp at this; omega
  have hbel : Below w.heap.size w w1 := hb0.trans (hb1.mono (by simp; omega))
  have r0 := cellC hg0 0
  have r1 := cellC hg0 1
  have r2 := cellC hg0 2
  have fz := frzC hg0
  simp at r0 r1 r2
  clear hv hb1 hg0 k0 k1 hb0
  go_wp2
  have q := three_set w1 w.heap.size (.slice (some ⟨w.heap.size + 1, 0, none⟩) 2 2) (.int .i64 i) (.int .i64 x) _ _ _ r0 r1 r2
  have oth : ∀ k v, ∀ w0 : World, (w0.setCell ⟨w.heap.size, k, none⟩ v).cell? ⟨w.heap.size + 1, 0, none⟩ = w0.cell? ⟨w.heap.size + 1, 0, none⟩ := fun k v w0 => World.cell?_setCell_other _ _ _ _ (fun e => by injection e with e1; omega)
  have oth1 : ∀ k v, ∀ w0 : World, (w0.setCell ⟨w.heap.size, k, none⟩ v).cell? ⟨w.heap.size + 1, 1, none⟩ = w0.cell? ⟨w.heap.size + 1, 1, none⟩ := fun k v w0 => World.cell?_setCell_other _ _ _ _ (fun e => by injection e with e1; omega)
  exact bodyPost_ret (v := .agg #[.slice (some ⟨w.heap.size + 1, 0, none⟩) 2 2, .int .i64 i, .int .i64 x]) (results30 Try.results13 rfl q.1 q.2.1 q.2.2) rfl
    ⟨⟨w.heap.size + 1, i, x, rfl, by simpa [World.setCell] using hsz, by rw [oth, oth, oth]; exact d0, by rw [oth1, oth1, oth1]; exact d1⟩, ((hbel.setCell (p := ⟨w.heap.size, 0, none⟩) (Nat.le_refl _) _).setCell (p := ⟨w.heap.size, 1, none⟩) (Nat.le_refl _) _).setCell (p := ⟨w.heap.size, 2, none⟩) (Nat.le_refl _) _⟩
end Go.Proofs.Qxb6609148a
