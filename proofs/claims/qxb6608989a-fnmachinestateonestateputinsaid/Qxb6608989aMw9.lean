/- The walk of machineFits. -/
import Derived.Test.Qxb6608989aMw6
namespace Go.Proofs.Qxb6608989a
open Go.RowKit

set_option maxRecDepth 8000 in
set_option maxHeartbeats 2000000 in
theorem machineFits_any (s1 s2 s3 : ByteArray) (a0 : Option Addr) (n cap : Nat) (T : Nat → Zs) (a2 : Option Addr) (m cap2 : Nat) (Lf : Nat → Nat) (x : Int) (w : World) (hn : n ≤ 1048576) (hp0 : StatesAt w a0 n T) (hm : m ≤ 1048576) (hp20 : EventsAt w a2 m Lf) (hLf : ∀ i, i < m → Lf i ≤ 1048576) :
    Calls Try.prog 14 #[.string s1, .string s2, .string s3, .slice a0 n cap, .slice a2 m cap2, .int .i64 x] w fun e w' => RetBool e ∧ Below w.heap.size w w' := by
  go_enter Try.func14, Try.ntmps14
  go_wp2
  all_goals first | (go_ret; exact ⟨RetBool.mk _, Below.refl _ _⟩) | skip
  go_loopg [13, 14, 15] n (fun k t i u wr => ∃ z : Int, ∃ j : Nat, k + j = n ∧ i = .int .i64 j ∧ t = .int .i64 z ∧ Below w.heap.size w wr)
  case atStart => exact ⟨_, 0, rfl, rfl, rfl, Below.refl _ _⟩
  case round =>
    obtain ⟨z, j, hk, rfl, rfl, hbel⟩ := hrel
    by_cases hlt : j < n
    · obtain ⟨b, off, rfl, hb, hc⟩ := (hp0.later hbel) (by omega)
      obtain ⟨q, c0, c1, c2, c3, hr⟩ := hc j hlt
      have hsz := hbel.size
      clear hc hp0 hp20 hLf
      go_wp2_with fail
      refine (stateSize_any (T j) q _ hr).mono ?_
      rintro e w1 ⟨⟨y, rfl⟩, hb1⟩
      have hbel1 := hbel.trans (hb1.mono hsz)
      clear c0 c1 c2 c3 hr hbel hb1
      go_wp2
      all_goals first | (go_ret; exact ⟨RetBool.mk _, hbel1⟩) | skip
      go_roundg (gk - 1)
      case measure => omega
      case rel => exact ⟨_, j + 1, by omega, by go_num, rfl, hbel1⟩
    · have hp2 := hp20.later hbel
      clear hp0 hp20
      go_wp2
      obtain ⟨wo, rfl⟩ : ∃ wo : World, wo = wr := ⟨_, rfl⟩
      go_loopg [13, 16, 17] m (fun k t i u wr => ∃ z : Int, ∃ j : Nat, k + j = m ∧ i = .int .i64 j ∧ t = .int .i64 z ∧ ∃ q, wr = wo.drewN q)
      case atStart => exact ⟨_, 0, rfl, rfl, rfl, 0, rfl⟩
      case round =>
        obtain ⟨z, j, hk, rfl, rfl, dq, rfl⟩ := hrel
        by_cases hlt : j < m
        · obtain ⟨b, off, rfl, hb, hc⟩ := hp2 (by omega)
          obtain ⟨s, t, aF, cF, F, c0, c1, c2, hr⟩ := hc j hlt
          have hl := hLf j hlt
          clear hc hp2 hLf
          go_wp2
          all_goals first | (go_ret; exact ⟨RetBool.mk _, hbel.trans (below_drewN _)⟩) | skip
          go_quiet (fail)
          go_wp2
          all_goals first | (go_ret; exact ⟨RetBool.mk _, hbel.trans (below_drewN _)⟩) | skip
          go_loopg [13, 17] (Lf j) (fun k t i wr => ∃ z : Int, ∃ q : Nat, k + q = Lf j ∧ i = .int .i64 q ∧ t = .int .i64 z ∧ ∃ q, wr = wo.drewN q)
          case atStart => exact ⟨_, 0, rfl, rfl, rfl, _, rfl⟩
          case round =>
            obtain ⟨z, q, hkq, rfl, rfl, dq, rfl⟩ := hrel
            by_cases hq : q < Lf j
            · obtain ⟨bF, oF, rfl, hbF, hcF⟩ := hr (by omega)
              have e := hcF q hq
              clear hcF hr
              go_wp2
              all_goals first | (go_ret; exact ⟨RetBool.mk _, hbel.trans (below_drewN _)⟩) | skip
              go_roundg (gk - 1)
              case measure => omega
              case rel => exact ⟨_, q + 1, by omega, by go_num, rfl, _, rfl⟩
            · go_wp2
              go_roundg (m - j - 1)
              case measure => omega
              case rel => exact ⟨_, j + 1, by omega, by go_num, rfl, _, rfl⟩
        · go_wp2
          all_goals (go_ret; exact ⟨RetBool.mk _, hbel.trans (below_drewN _)⟩)
end Go.Proofs.Qxb6608989a
