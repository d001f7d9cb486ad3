/- Walks of the small functions on states. -/
import Derived.Test.Qxb6608989aMd
import Derived.Deep.RegionHeld3
import Derived.Deep.RegionWith
namespace Go.Proofs.Qxb6608989a
open Go.RowKit

def RetInt (e : Ending) : Prop := ∃ z, e = .returned (.int .i64 z)
theorem RetInt.mk (z : Int) : RetInt (.returned (.int .i64 z)) := ⟨z, rfl⟩

set_option maxHeartbeats 400000 in
theorem stateSize_any (z : Zs) (q : Value) (w : World) (hr : RetryAt w q z.retry) :
    Calls Try.prog 22 #[zv z q] w fun e w' => RetInt e ∧ Below w.heap.size w w' := by
  obtain ⟨nm, tm, wk, r⟩ := z
  cases r with
  | none =>
    obtain rfl : q = .pointer none := hr
    go_enter Try.func22, Try.ntmps22
    go_wp2
    all_goals (go_ret; exact ⟨RetInt.mk _, (Below.refl _ _).alloc (Nat.le_refl _) _⟩)
  | some r =>
    obtain ⟨b, o, rfl, hl, c0, c1, c2, c3⟩ := hr
    go_enter Try.func22, Try.ntmps22
    go_wp2
    all_goals (go_ret; exact ⟨RetInt.mk _, (Below.refl _ _).alloc (Nat.le_refl _) _⟩)

set_option maxHeartbeats 400000 in
theorem newRetry_any (r : Rt) (w : World) :
    Calls Try.prog 30 #[.int .i64 r.att, .int .i64 r.del, .int .i64 r.mx, .string r.give] w fun e w' => e = .returned (.pointer (some ⟨w.heap.size, 0, none⟩)) ∧ w' = w.alloc (.cells #[.int .i64 r.att, .int .i64 r.del, .int .i64 r.mx, .string r.give] 67) := by
  go_enter Try.func30, Try.ntmps30
  go_wp2
  go_ret
  exact ⟨rfl, rfl⟩

set_option maxHeartbeats 400000 in
theorem isZero_any (w : World) :
    Calls Try.prog 18 #[zv zeroZs (.pointer none)] w fun e w' => e = .returned (.bool true) ∧ Below w.heap.size w w' := by
  unfold zeroZs
  go_enter Try.func18, Try.ntmps18
  go_wp2
  go_ret
  exact ⟨rfl, (Below.refl _ _).alloc (Nat.le_refl _) _⟩

set_option maxHeartbeats 400000 in
theorem closure_any (z : Zs) (q : Value) (b : Nat) (nm : ByteArray) (w : World) (hb : b < w.heap.size) (hc : w.cell? ⟨b, 0, none⟩ = some (.string nm)) :
    Calls Try.prog 28 #[zv z q, .pointer (some ⟨b, 0, none⟩)] w fun e w' => e = .returned (.bool (z.name.toList == nm.toList)) ∧ Below w.heap.size w w' := by
  go_enter Try.func28, Try.ntmps28
  go_wp2
  all_goals (go_ret; exact ⟨rfl, (Below.refl _ _).alloc (Nat.le_refl _) _⟩)

set_option maxHeartbeats 400000 in
theorem stateIs_any (z : Zs) (q q' : Value) (w : World) (hr : RetryAt w q z.retry) (hr' : RetryAt w q' z.retry) :
    Calls Try.prog 19 #[zv z q, zv z q'] w fun e w' => e = .returned (.bool true) ∧ Below w.heap.size w w' := by
  obtain ⟨nm, tm, wk, r⟩ := z
  cases r with
  | none =>
    obtain rfl : q = .pointer none := hr
    obtain rfl : q' = .pointer none := hr'
    go_enter Try.func19, Try.ntmps19
    go_wp2
    all_goals (go_ret; exact ⟨rfl, ((Below.refl _ _).alloc (Nat.le_refl _) _).alloc (by simp) _⟩)
  | some r =>
    obtain ⟨b, o, rfl, hl, c0, c1, c2, c3⟩ := hr
    obtain ⟨b', o', rfl, hl', c0', c1', c2', c3'⟩ := hr'
    go_enter Try.func19, Try.ntmps19
    go_wp2
    go_quiet (fail)
    go_wp2
    go_ret
    exact ⟨rfl, (((Below.refl _ _).alloc (Nat.le_refl _) _).alloc (by simp) _).trans (below_drewN _)⟩

set_option maxHeartbeats 400000 in
theorem statesEqual_any (z : Zs) (q q' : Value) (w : World) (hr : RetryAt w q z.retry) (hr' : RetryAt w q' z.retry) :
    Calls Try.prog 20 #[zv z q, zv z q'] w fun e w' => e = .returned (.bool true) ∧ Below w.heap.size w w' := by
  obtain ⟨nm, tm, wk, r⟩ := z
  cases r with
  | none =>
    obtain rfl : q = .pointer none := hr
    obtain rfl : q' = .pointer none := hr'
    go_enter Try.func20, Try.ntmps20
    go_wp2
    all_goals (go_ret; exact ⟨rfl, ((Below.refl _ _).alloc (Nat.le_refl _) _).alloc (by simp) _⟩)
  | some r =>
    obtain ⟨b, o, rfl, hl, c0, c1, c2, c3⟩ := hr
    obtain ⟨b', o', rfl, hl', c0', c1', c2', c3'⟩ := hr'
    go_enter Try.func20, Try.ntmps20
    go_wp2
    go_quiet (fail)
    go_wp2
    go_ret
    exact ⟨rfl, (((Below.refl _ _).alloc (Nat.le_refl _) _).alloc (by simp) _).trans (below_drewN _)⟩

end Go.Proofs.Qxb6608989a
