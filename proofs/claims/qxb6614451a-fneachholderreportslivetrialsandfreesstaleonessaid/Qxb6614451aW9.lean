/- unlinkAt and eachHolder over the graph of the third law. -/
import Derived.Test.Qxb6614451aW8
namespace Go.Proofs.Qxb6614451a
open Go.RowKit

section
variable {w : World} {g bp bf bm bL n nl h : Nat} {T : Nat → Int} {fr pu re : Bool} {ho hoT hd : Int} {f : Nat → Nat → Int} {sp : Int}

set_option maxHeartbeats 400000 in
theorem unlink_head (q : G5 w g bp bf bm bL n nl h T fr pu re ho hoT hd f sp) (d : Nat) (hdn : d < nl) (hhd : hd = d) :
    Calls Try.prog 28 #[.pointer (some ⟨g, 0, none⟩), .pointer (some ⟨bm, h * 11 + 5, none⟩)] w fun e w' => (∃ v, e = .returned v) ∧ w' = (((w.setCell ⟨bm, h * 11 + 5, none⟩ (.int .i32 (f d 3))).setCell ⟨bL, d * 4 + 3, none⟩ (.int .i32 sp)).setCell ⟨g, 13, none⟩ (.int .i32 d)).drew := by
  obtain ⟨_, _, c12, c13, f13⟩ := q.g0
  obtain ⟨_, _, cm, _, _, fm⟩ := q.mem
  rw [hhd] at cm
  have e0 : w.cell? ⟨bL, d * 4, none⟩ = _ := q.l hdn (j := 0) (by omega)
  have e3 := q.l hdn (j := 3) (by omega)
  have g3 := q.lf (d * 4 + 3)
  obtain ⟨_, _, n3, n4, _, _, _, _, _, n10⟩ := q.ne
  clear q hhd
  go_enter Try.func28, Try.ntmps28
  go_wp2
  go_region
  go_wp2
  go_ret
  exact ⟨⟨_, rfl⟩, rfl⟩

set_option maxHeartbeats 400000 in
theorem unlink_last (q : G5 w g bp bf bm bL n nl h T fr pu re ho hoT hd f sp) (d : Nat) (hdn : d < nl) (x : Nat) (hx : x < nl) (hxd : x ≠ d) (hfx : f x 3 = d) :
    Calls Try.prog 28 #[.pointer (some ⟨g, 0, none⟩), .pointer (some ⟨bL, x * 4 + 3, none⟩)] w fun e w' => (∃ v, e = .returned v) ∧ w' = (((w.setCell ⟨bL, x * 4 + 3, none⟩ (.int .i32 (f d 3))).setCell ⟨bL, d * 4 + 3, none⟩ (.int .i32 sp)).setCell ⟨g, 13, none⟩ (.int .i32 d)).drew := by
  obtain ⟨_, _, c12, c13, f13⟩ := q.g0
  have cm := q.l hx (j := 3) (by omega)
  rw [hfx] at cm
  have fm := q.lf (x * 4 + 3)
  have e0 : w.cell? ⟨bL, d * 4, none⟩ = _ := q.l hdn (j := 0) (by omega)
  have e3 := q.l hdn (j := 3) (by omega)
  have g3 := q.lf (d * 4 + 3)
  obtain ⟨_, _, n3, n4, _, _, _, _, _, n10⟩ := q.ne
  have hxd4 : x * 4 + 3 ≠ d * 4 + 3 := by omega
  clear q hfx
  go_enter Try.func28, Try.ntmps28
  go_wp2
  go_region
  go_wp2
  go_ret
  exact ⟨⟨_, rfl⟩, rfl⟩

theorem holdsHead (q : G5 w g bp bf bm bL n nl h T fr pu re ho hoT hd f sp) : Calls Try.prog 22 #[.pointer (some ⟨g, 0, none⟩), .int .i32 h] w fun e w' => e = .returned (.int .i32 hd) ∧ w = w' := by
  obtain ⟨_, c6, _, _, _⟩ := q.g0
  obtain ⟨_, _, cm, _, _, fm⟩ := q.mem
  have hn := q.hn
  clear q
  go_enter Try.func22, Try.ntmps22
  go_wp2
  go_ret
  exact ⟨rfl, rfl⟩

theorem spare5 (q : G5 w g bp bf bm bL n nl h T fr pu re ho hoT hd f sp) : Calls Try.prog 23 #[.pointer (some ⟨g, 0, none⟩)] w fun e w' => e = .returned (.int .i32 sp) ∧ w = w' := by
  obtain ⟨_, c6, _, c13, _⟩ := q.g0
  clear q
  go_enter Try.func23, Try.ntmps23
  go_wp2
  go_ret
  exact ⟨rfl, rfl⟩

theorem linkAt5 (q : G5 w g bp bf bm bL n nl h T fr pu re ho hoT hd f sp) (k : Nat) (hk : k < nl) :
    Calls Try.prog 11 #[.pointer (some ⟨g, 0, none⟩), .int .i32 k] w fun e w' => e = .returned (.tuple #[.int .i32 (f k 0), .int .i32 (f k 1), .int .i32 (f k 2), .int .i32 (f k 3)]) ∧ Below w.heap.size w w' := by
  obtain ⟨_, _, c12, _, _⟩ := q.g0
  have hl := q.lts.2.2.2.2
  have e0 : w.cell? ⟨bL, k * 4, none⟩ = _ := q.l hk (j := 0) (by omega)
  have e1 := q.l hk (j := 1) (by omega)
  have e2 := q.l hk (j := 2) (by omega)
  have e3 := q.l hk (j := 3) (by omega)
  clear q
  go_enter Try.func11, Try.ntmps11
  go_wp2
  go_quiet (fail)
  go_wp2
  refine bodyPost_ret (results_tmp4 rfl _ _ _) rfl ?_
  exact ⟨rfl, ((Below.refl _ _).alloc (Nat.le_refl _) _).trans (below_drewN _)⟩
end
end Go.Proofs.Qxb6614451a
