/- Made with the world it leaves. -/
import Derived.Test.Qxb6609148aW4
namespace Go.Proofs.Qxb6609148a
open Go.RowKit

set_option maxRecDepth 8000 in
set_option maxHeartbeats 400000 in
theorem made_list_at (a : Option Addr) (n c : Nat) (i x : Int) (w : World) (hn : n ≤ 1048576) :
    Calls Try.prog 10 #[.iface 30 (.agg #[.slice a n c, .int .i64 i, .int .i64 x])] w fun e w' => e = .returned (.int .i64 (1 + n : Nat)) ∧ w' = (w.alloc (.cells #[.slice a n c, .int .i64 i, .int .i64 x] 30)).alloc (.cells #[.slice a n c, .int .i64 i, .int .i64 x] 30) := by
  have q1 := is30_30
  go_enter Try.func10, Try.ntmps10
  go_wp2
  go_ret
  exact ⟨ret_i64 (by omega), rfl⟩

set_option maxHeartbeats 400000 in
theorem big_at (p : Option Addr) (a : Nat) (w : World) (hp : IntAt w p a) :
    Calls Try.prog 25 #[.agg #[.pointer p]] w fun e w' => e = .returned (.pointer p) ∧ w' = w.alloc (.cells #[.pointer p] 36) := by
  obtain ⟨b, neg, rfl, _, hl, c0, h⟩ := hp
  go_enter Try.func25, Try.ntmps25
  go_wp2
  go_ret
  exact ⟨rfl, rfl⟩

set_option maxRecDepth 8000 in
set_option maxHeartbeats 400000 in
theorem made_int_at (p : Option Addr) (a mm : Nat) (w : World) (ha : a < 18446744073709551616) (hp : IntAt w p a) (hB : Bytes a mm) :
    Calls Try.prog 10 #[.iface 36 (.agg #[.pointer p])] w fun e w' => e = .returned (.int .i64 (1 + mm : Nat)) ∧ w' = (w.alloc (.cells #[.pointer p] 36)).alloc (.cells #[.pointer p] 36) := by
  have q1 := is36_30
  have q2 := is36_51
  have q3 := is36_55
  have q4 := is36_33
  have q5 := is36_36
  go_enter Try.func10, Try.ntmps10
  go_wp2_with fail
  have hb0 : Below w.heap.size w (w.alloc (.cells #[.pointer p] 36)) := (Below.refl _ _).alloc (Nat.le_refl _) _
  have hb1 : Below (w.alloc (.cells #[.pointer p] 36)).heap.size (w.alloc (.cells #[.pointer p] 36)) ((w.alloc (.cells #[.pointer p] 36)).alloc (.cells #[.pointer p] 36)) := (Below.refl _ _).alloc (Nat.le_refl _) _
  refine (big_at p a _ (hp.later hb0)).mono ?_
  rintro e w1 ⟨rfl, rfl⟩
  go_wp2_with fail
  refine (magnitude_any p a _ ha ((hp.later hb0).later hb1)).mono ?_
  rintro e w2 ⟨⟨m2, rfl, hM, h8⟩, rfl⟩
  obtain rfl : m2 = mm := hM mm hB
  go_wp2
  go_ret
  exact ⟨ret_i64 (by omega), rfl⟩

theorem bytes_uniq {a c d : Nat} (hc : Bytes a c) (hd : Bytes a d) : c = d := by
  by_cases h : a = 0
  · rw [hc.1 h, hd.1 h]
  · have h1 : c - 1 < d := (Nat.pow_lt_pow_iff_right (a := 256) (by omega)).1 (Nat.lt_of_le_of_lt (hc.2.1 h).2 hd.2.2)
    have h2 : d - 1 < c := (Nat.pow_lt_pow_iff_right (a := 256) (by omega)).1 (Nat.lt_of_le_of_lt (hd.2.1 h).2 hc.2.2)
    have := (hc.2.1 h).1
    have := (hd.2.1 h).1
    omega

set_option maxRecDepth 8000 in
set_option maxHeartbeats 1000000 in
theorem byteCount_at (a mm : Nat) (w : World) (ha : a < 18446744073709551616) (hB : Bytes a mm) :
    Calls Try.prog 14 #[.int .u64 a] w fun e w' => e = .returned (.int .i64 mm) ∧ w = w' := by
  refine (byteCount_any a w ha).mono ?_
  rintro e w' ⟨⟨c, rfl, hc, _⟩, rfl⟩
  refine ⟨?_, rfl⟩
  rw [bytes_uniq hB hc]
end Go.Proofs.Qxb6609148a
