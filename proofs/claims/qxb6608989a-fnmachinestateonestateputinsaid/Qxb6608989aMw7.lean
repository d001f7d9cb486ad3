/- The walk of the third law's guard on lengths. -/
import Derived.Test.Qxb6608989aMw6
namespace Go.Proofs.Qxb6608989a
open Go.RowKit

/-- What the guard on lengths answers: a bool; where it is true every event's From is short. -/
def Guarded (e : Ending) (m : Nat) (Lf : Nat → Nat) : Prop := ∃ r, e = .returned (.bool r) ∧ (r = true → ∀ i, i < m → Lf i ≤ 1048576)
theorem Guarded.no (m : Nat) (Lf : Nat → Nat) : Guarded (.returned (.bool false)) m Lf := ⟨false, rfl, by simp⟩
theorem Guarded.yes {m : Nat} {Lf : Nat → Nat} (h : ∀ i, i < m → Lf i ≤ 1048576) : Guarded (.returned (.bool true)) m Lf := ⟨true, rfl, fun _ => h⟩

set_option maxRecDepth 8000 in
set_option maxHeartbeats 2000000 in
theorem zzBytes13_any (s1 s2 s3 : ByteArray) (a0 : Option Addr) (n cap : Nat) (T : Nat → Zs) (a2 : Option Addr) (m cap2 : Nat) (Lf : Nat → Nat) (nm : ByteArray) (x : Int) (w : World) (hn : n ≤ 9223372036854775807) (hp : StatesAt w a0 n T) (hm : m ≤ 9223372036854775807) (hp2 : EventsAt w a2 m Lf) :
    Calls Try.prog 13 #[.string s1, .string s2, .string s3, .slice a0 n cap, .slice a2 m cap2, .string nm, .int .i64 x] w fun e w' => Guarded e m Lf ∧ w = w' := by
  go_enter Try.func13, Try.ntmps13
  go_wp2
  all_goals first | (go_ret; exact ⟨Guarded.no _ _, rfl⟩) | skip
  go_loopg [15, 16] n (fun k t i wr => ∃ z : Int, ∃ j : Nat, k + j = n ∧ i = .int .i64 j ∧ t = .int .i64 z ∧ wr = w)
  case atStart => exact ⟨_, 0, rfl, rfl, rfl, rfl⟩
  case round =>
    obtain ⟨z, j, hk, rfl, rfl, rfl⟩ := hrel
    by_cases hlt : j < n
    · obtain ⟨b, off, rfl, hb, hc⟩ := hp (by omega)
      obtain ⟨q, c0, c1, c2, c3, hr⟩ := hc j hlt
      clear hc hp hp2
      cases hq : (T j).retry with
      | none =>
        rw [hq] at hr
        obtain rfl : q = .pointer none := hr
        clear hq
        go_wp2
        all_goals first | (go_ret; exact ⟨Guarded.no _ _, rfl⟩) | skip
        go_roundg (gk - 1)
        case measure => omega
        case rel => exact ⟨_, j + 1, by omega, by go_num, rfl, rfl⟩
      | some r =>
        rw [hq] at hr
        obtain ⟨br, o, rfl, hl, r0, r1, r2, r3⟩ := hr
        clear hq
        go_wp2
        all_goals first | (go_ret; exact ⟨Guarded.no _ _, rfl⟩) | skip
        go_roundg (gk - 1)
        case measure => omega
        case rel => exact ⟨_, j + 1, by omega, by go_num, rfl, rfl⟩
    · clear hp
      go_wp2
      all_goals first | (go_ret; exact ⟨Guarded.no _ _, rfl⟩) | skip
      obtain ⟨w, rfl⟩ : ∃ w : World, w = wr := ⟨_, rfl⟩
      go_loopg [15, 17, 18] m (fun k t i u wr => ∃ z : Int, ∃ j : Nat, k + j = m ∧ i = .int .i64 j ∧ t = .int .i64 z ∧ wr = w ∧ ∀ i, i < j → Lf i ≤ 1048576)
      case atStart => exact ⟨_, 0, rfl, rfl, rfl, rfl, fun i hi => by omega⟩
      case round =>
        obtain ⟨z, j, hk, rfl, rfl, rfl, hLf⟩ := hrel
        by_cases hlt : j < m
        · obtain ⟨b, off, rfl, hb, hc⟩ := hp2 (by omega)
          obtain ⟨s, t, aF, cF, F, c0, c1, c2, hr⟩ := hc j hlt
          clear hc hp2
          go_wp2
          all_goals first | (go_ret; exact ⟨Guarded.no _ _, rfl⟩) | skip
          have hl : Lf j ≤ 1048576 := by omega
          obtain ⟨wo, rfl⟩ : ∃ wo : World, wo = wr := ⟨_, rfl⟩
          go_loopg [15, 18] (Lf j) (fun k t i wr => ∃ z : Int, ∃ q : Nat, k + q = Lf j ∧ i = .int .i64 q ∧ t = .int .i64 z ∧ wr = wo)
          case atStart => exact ⟨_, 0, rfl, rfl, rfl, rfl⟩
          case round =>
            obtain ⟨z, q, hkq, rfl, rfl, rfl⟩ := hrel
            by_cases hq : q < Lf j
            · obtain ⟨bF, oF, rfl, hbF, hcF⟩ := hr (by omega)
              have e := hcF q hq
              clear hcF hr
              go_wp2
              all_goals first | (go_ret; exact ⟨Guarded.no _ _, rfl⟩) | skip
              go_roundg (gk - 1)
              case measure => omega
              case rel => exact ⟨_, q + 1, by omega, by go_num, rfl, rfl⟩
            · go_wp2
              all_goals first | (go_ret; exact ⟨Guarded.no _ _, rfl⟩) | skip
              go_roundg (m - j - 1)
              case measure => omega
              case rel => exact ⟨_, j + 1, by omega, by go_num, rfl, rfl, fun i hi => by rcases Nat.lt_succ_iff_lt_or_eq.1 hi with h | h; exact hLf i h; subst h; exact hl⟩
        · obtain rfl : j = m := by omega
          go_wp2
          all_goals first | (go_ret; exact ⟨Guarded.no _ _, rfl⟩) | (go_ret; exact ⟨Guarded.yes hLf, rfl⟩)
end Go.Proofs.Qxb6608989a
