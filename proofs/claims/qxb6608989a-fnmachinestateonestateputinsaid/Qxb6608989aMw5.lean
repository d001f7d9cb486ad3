/- The walks of firstNamed and slices.IndexFunc. -/
import Derived.Test.Qxb6608989aMw4
namespace Go.Proofs.Qxb6608989a
open Go.RowKit

def ixOf : Option Nat → Int
  | some i => i
  | none => -1

theorem fstTo_hit {T : Nat → Zs} {nm : ByteArray} {k : Nat} (h : fstTo T nm k = none) (ht : ((T k).name.toList == nm.toList) = true) : fstTo T nm (k + 1) = some k := by
  rw [fstTo, h]; simp [ht]
theorem fstTo_miss {T : Nat → Zs} {nm : ByteArray} {k : Nat} (h : fstTo T nm k = none) (ht : ((T k).name.toList == nm.toList) = false) : fstTo T nm (k + 1) = none := by
  rw [fstTo, h]; simp [ht]
theorem fstTo_up {T : Nat → Zs} {nm : ByteArray} {k n i : Nat} (h : fstTo T nm k = some i) (hk : k ≤ n) : fstTo T nm n = some i := by
  obtain ⟨m, rfl⟩ : ∃ m, n = k + m := ⟨n - k, by omega⟩
  rw [fstTo_add, h]

set_option maxHeartbeats 400000 in
theorem firstNamed_any (a0 : Option Addr) (n cap : Nat) (T : Nat → Zs) (nm : ByteArray) (w : World) (hn : n ≤ 1048576) (hp : StatesAt w a0 n T) :
    Calls Try.prog 17 #[.slice a0 n cap, .string nm] w fun e w' => e = .returned (.int .i64 (ixOf (fstTo T nm n))) ∧ w = w' := by
  go_enter Try.func17, Try.ntmps17
  go_wp2
  go_loopg [5] n (fun k i wr => ∃ j : Nat, k + j = n ∧ i = .int .i64 j ∧ Hid (fstTo T nm j = none) ∧ wr = w)
  case atStart => exact ⟨0, rfl, rfl, rfl, rfl⟩
  case round =>
    obtain ⟨j, hk, rfl, hf, rfl⟩ := hrel
    by_cases hlt : j < n
    · obtain ⟨b, off, rfl, hb, hc⟩ := hp (by omega)
      obtain ⟨q, c0, c1, c2, c3, hr⟩ := hc j hlt
      clear hc hp c1 c2 c3 hr
      go_wp2
      · have ht : ((T j).name.toList == nm.toList) = true := by assumption
        go_ret
        rw [fstTo_up (fstTo_hit hf.out ht) hlt]
        exact ⟨rfl, rfl⟩
      · have ht : ((T j).name.toList == nm.toList) = false := by assumption
        go_roundg (gk - 1)
        case measure => omega
        case rel => exact ⟨j + 1, by omega, by go_num, fstTo_miss hf.out ht, rfl⟩
    · obtain rfl : j = n := by omega
      go_wp2
      go_ret
      rw [hf.out]
      exact ⟨rfl, rfl⟩

set_option maxHeartbeats 400000 in
theorem indexFunc_any (a0 : Option Addr) (n cap : Nat) (T : Nat → Zs) (nm : ByteArray) (gb : Nat) (w : World) (hn : n ≤ 1048576) (hp : StatesAt w a0 n T) (hgb : gb < w.heap.size) (hcb : w.cell? ⟨gb, 0, none⟩ = some (.string nm)) :
    Calls Try.prog 27 #[.slice a0 n cap, .func (.func 28) #[] #[.pointer (some ⟨gb, 0, none⟩)]] w fun e w' => e = .returned (.int .i64 (ixOf (fstTo T nm n))) ∧ Below w.heap.size w w' := by
  go_enter Try.func27, Try.ntmps27
  go_wp2
  go_loopg [8, 5] n (fun k i u wr => ∃ j : Nat, k + j = n ∧ i = .int .i64 j ∧ Hid (fstTo T nm j = none) ∧ Below w.heap.size w wr)
  case atStart => exact ⟨0, rfl, rfl, rfl, Below.refl _ _⟩
  case round =>
    obtain ⟨j, hk, rfl, hf, hbel⟩ := hrel
    by_cases hlt : j < n
    · obtain ⟨b, off, rfl, hb, hc⟩ := (hp.later hbel) (by omega)
      obtain ⟨q, c0, c1, c2, c3, hr⟩ := hc j hlt
      clear hc hp
      have hs := hbel.size
      go_wp2_with fail
      refine (closure_any (T j) q gb nm _ (by omega) ((hbel.cell (p := ⟨gb, 0, none⟩) hgb).trans hcb)).mono ?_
      rintro e w1 ⟨rfl, hb1⟩
      have hb2 := hbel.trans (hb1.mono hs)
      clear c0 c1 c2 c3 hr hbel hb1 hcb
      go_wp2
      · have ht : ((T j).name.toList == nm.toList) = true := by assumption
        go_ret
        rw [fstTo_up (fstTo_hit hf.out ht) hlt]
        exact ⟨rfl, hb2⟩
      · have ht : ((T j).name.toList == nm.toList) = false := by assumption
        go_roundg (gk - 1)
        case measure => omega
        case rel => exact ⟨j + 1, by omega, by go_num, fstTo_miss hf.out ht, hb2⟩
    · obtain rfl : j = n := by omega
      go_wp2
      go_ret
      rw [hf.out]
      exact ⟨rfl, hbel⟩
end Go.Proofs.Qxb6608989a
