/- The walk of the fourth law's guard on lengths. -/
import Derived.Test.Qxb6608989aMw7
namespace Go.Proofs.Qxb6608989a
open Go.RowKit

set_option maxRecDepth 8000 in
set_option maxHeartbeats 2000000 in
theorem zzBytes21_any (s1 s2 s3 : ByteArray) (a0 : Option Addr) (n cap : Nat) (T : Nat → Zs) (a2 : Option Addr) (m cap2 : Nat) (Lf : Nat → Nat) (nm : ByteArray) (x : Int) (zi : Zs) (qi : Value) (w : World) (hn : n ≤ 9223372036854775807) (hp0 : StatesAt w a0 n T) (hm : m ≤ 9223372036854775807) (hp20 : EventsAt w a2 m Lf) (hri0 : RetryAt w qi zi.retry) :
    Calls Try.prog 21 #[.string s1, .string s2, .string s3, .slice a0 n cap, .slice a2 m cap2, .int .i64 x, zv zi qi, .string nm] w fun e w' => Guarded e m Lf ∧ Below w.heap.size w w' := by
  go_enter Try.func21, Try.ntmps21
  go_upto_region 0 with fail
  go_cut [14, 16] (fun v v2 wc => v = .pointer (some ⟨w.heap.size, 0, none⟩) ∧ v2 = .bool false ∧ Below w.heap.size w wc ∧ wc.cell? ⟨w.heap.size, 0, none⟩ = some (.string zi.name) ∧ wc.cell? ⟨w.heap.size, 3, none⟩ = some qi)
  case first =>
    go_wp2
    go_meet
    case rel => exact ⟨rfl, rfl, (Below.refl _ _).alloc (Nat.le_refl _) _, by simp, by simp⟩
  case rest =>
    obtain ⟨rfl, rfl, hbel, i0, i3⟩ := hcut
    have hp := hp0.later hbel
    have hp2 := hp20.later hbel
    have hri := hri0.later hbel
    clear hp0 hp20 hri0
    go_wp2
    all_goals first | (go_ret; exact ⟨Guarded.no _ _, hbel⟩) | skip
    go_loopg [17, 18] n (fun k t i wr => ∃ z : Int, ∃ j : Nat, k + j = n ∧ i = .int .i64 j ∧ t = .int .i64 z ∧ wr = wc)
    case atStart => exact ⟨_, 0, rfl, rfl, rfl, rfl⟩
    case round =>
      obtain ⟨z, j, hk, rfl, rfl, rfl⟩ := hrel
      by_cases hlt : j < n
      · obtain ⟨b, off, rfl, hb, hc⟩ := hp (by omega)
        obtain ⟨q, c0, c1, c2, c3, hr⟩ := hc j hlt
        clear hc hp hp2
        cases hq : (T j).retry with
        | none =>
          rw [hq] at hr
          obtain rfl : q = .pointer none := hr
          clear hq
          go_wp2
          all_goals first | (go_ret; exact ⟨Guarded.no _ _, hbel⟩) | skip
          go_roundg (gk - 1)
          case measure => omega
          case rel => exact ⟨_, j + 1, by omega, by go_num, rfl, rfl⟩
        | some r =>
          rw [hq] at hr
          obtain ⟨br, o, rfl, hl, r0, r1, r2, r3⟩ := hr
          clear hq
          go_wp2
          all_goals first | (go_ret; exact ⟨Guarded.no _ _, hbel⟩) | skip
          go_roundg (gk - 1)
          case measure => omega
          case rel => exact ⟨_, j + 1, by omega, by go_num, rfl, rfl⟩
      · clear hp
        go_wp2
        all_goals first | (go_ret; exact ⟨Guarded.no _ _, hbel⟩) | skip
        obtain ⟨wc, rfl⟩ : ∃ wc : World, wc = wr := ⟨_, rfl⟩
        go_loopg [17, 19, 20] m (fun k t i u wr => ∃ z : Int, ∃ j : Nat, k + j = m ∧ i = .int .i64 j ∧ t = .int .i64 z ∧ wr = wc ∧ ∀ i, i < j → Lf i ≤ 1048576)
        case atStart => exact ⟨_, 0, rfl, rfl, rfl, rfl, fun i hi => by omega⟩
        case round =>
          obtain ⟨z, j, hk, rfl, rfl, rfl, hLf⟩ := hrel
          by_cases hlt : j < m
          · obtain ⟨b, off, rfl, hb, hc⟩ := hp2 (by omega)
            obtain ⟨s, t, aF, cF, F, c0, c1, c2, hr⟩ := hc j hlt
            clear hc hp2
            go_wp2
            all_goals first | (go_ret; exact ⟨Guarded.no _ _, hbel⟩) | skip
            have hl : Lf j ≤ 1048576 := by omega
            obtain ⟨wo, rfl⟩ : ∃ wo : World, wo = wr := ⟨_, rfl⟩
            go_loopg [17, 20] (Lf j) (fun k t i wr => ∃ z : Int, ∃ q : Nat, k + q = Lf j ∧ i = .int .i64 q ∧ t = .int .i64 z ∧ wr = wo)
            case atStart => exact ⟨_, 0, rfl, rfl, rfl, rfl⟩
            case round =>
              obtain ⟨z, q, hkq, rfl, rfl, rfl⟩ := hrel
              by_cases hq : q < Lf j
              · obtain ⟨bF, oF, rfl, hbF, hcF⟩ := hr (by omega)
                have e := hcF q hq
                clear hcF hr
                go_wp2
                all_goals first | (go_ret; exact ⟨Guarded.no _ _, hbel⟩) | skip
                go_roundg (gk - 1)
                case measure => omega
                case rel => exact ⟨_, q + 1, by omega, by go_num, rfl, rfl⟩
              · go_wp2
                all_goals first | (go_ret; exact ⟨Guarded.no _ _, hbel⟩) | skip
                go_roundg (m - j - 1)
                case measure => omega
                case rel => exact ⟨_, j + 1, by omega, by go_num, rfl, rfl, fun i hi => by rcases Nat.lt_succ_iff_lt_or_eq.1 hi with h | h; exact hLf i h; subst h; exact hl⟩
          · obtain rfl : j = m := by omega
            cases hq : zi.retry with
            | none =>
              rw [hq] at hri
              obtain rfl : qi = .pointer none := hri
              clear hq hp2
              go_wp2
              all_goals first | (go_ret; exact ⟨Guarded.no _ _, hbel⟩) | (go_ret; exact ⟨Guarded.yes hLf, hbel⟩)
            | some r =>
              rw [hq] at hri
              obtain ⟨br, o, rfl, hl, r0, r1, r2, r3⟩ := hri
              clear hq hp2
              go_wp2
              all_goals first | (go_ret; exact ⟨Guarded.no _ _, hbel⟩) | (go_ret; exact ⟨Guarded.yes hLf, hbel⟩)
end Go.Proofs.Qxb6608989a
