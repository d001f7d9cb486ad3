/- The second law's guard on lengths, and sameStrings. -/
import Derived.Test.Qxb6608989aKw4
namespace Go.Proofs.Qxb6608989a
open Go.RowKit

set_option maxHeartbeats 1000000 in
theorem zzBytes11_any (a0 : Option Addr) (n cap : Nat) (S : Nat → Nat → ByteArray) (sc : ByteArray) (x : Int) (t key : ByteArray) (w : World) (hn : n ≤ 9223372036854775807) (hp : PairsAt w a0 n S) :
    Calls Try.prog 11 #[.slice a0 n cap, .string sc, .int .i64 x, .string t, .string key] w fun e w' => RetBool e ∧ w = w' := by
  go_enter Try.func11, Try.ntmps11
  go_wp2
  · go_ret
    exact ⟨RetBool.mk _, rfl⟩
  · go_loopg [11, 12, 13] n (fun k t i u wr => ∃ z : Int, ∃ j : Nat, k + j = n ∧ i = .int .i64 j ∧ t = .int .i64 z ∧ wr = w)
    case atStart => exact ⟨_, 0, rfl, rfl, rfl, rfl⟩
    case round =>
      obtain ⟨z, j, hk, rfl, rfl, rfl⟩ := hrel
      by_cases hlt : j < n
      · obtain ⟨b, off, rfl, hb, hc⟩ := hp (by omega)
        obtain ⟨c0, c1⟩ := hc j hlt
        clear hc hp
        go_wp2
        obtain ⟨wo, rfl⟩ : ∃ wo : World, wo = wr := ⟨_, rfl⟩
        go_loopg [11, 13] 2 (fun k t u wr => ∃ z : Int, ∃ i : Nat, k + i = 2 ∧ u = .int .i64 i ∧ t = .int .i64 z ∧ wr = wo)
        case atStart => exact ⟨_, 0, rfl, rfl, rfl, rfl⟩
        case round =>
          obtain ⟨z, i, hki, rfl, rfl, rfl⟩ := hrel
          by_cases hi0 : i = 0
          · subst hi0
            go_wp2
            · go_ret
              exact ⟨RetBool.mk _, rfl⟩
            · go_ret
              exact ⟨RetBool.mk _, rfl⟩
            · go_roundg 1
              case measure => omega
              case rel => exact ⟨_, 1, rfl, rfl, rfl, rfl⟩
          · by_cases hi1 : i = 1
            · subst hi1
              go_wp2
              · go_ret
                exact ⟨RetBool.mk _, rfl⟩
              · go_ret
                exact ⟨RetBool.mk _, rfl⟩
              · go_roundg 0
                case measure => omega
                case rel => exact ⟨_, 2, rfl, rfl, rfl, rfl⟩
            · obtain rfl : i = 2 := by omega
              go_wp2
              go_roundg (n - j - 1)
              case measure => omega
              case rel => exact ⟨_, j + 1, by omega, by go_num, rfl, rfl⟩
      · go_wp2
        all_goals
          go_ret
          exact ⟨RetBool.mk _, rfl⟩
set_option maxHeartbeats 400000 in
theorem sameStrings_any (a b : Option Addr) (ca cb : Nat) (L : List ByteArray) (w : World) (hl : L.length ≤ 1048576) (ha : StrsAt w a L) (hb : StrsAt w b L) :
    Calls Try.prog 12 #[.slice a L.length ca, .slice b L.length cb] w fun e w' => e = .returned (.bool true) ∧ Drawn w w' := by
  go_enter Try.func12, Try.ntmps12
  go_wp2
  go_loopg [5] L.length (fun k i wr => ∃ j m : Nat, k + j = L.length ∧ i = .int .i64 j ∧ wr = w.drewN m)
  case atStart => exact ⟨0, 0, rfl, rfl, rfl⟩
  case round =>
    obtain ⟨j, m, hk, rfl, rfl⟩ := hrel
    by_cases hlt : j < L.length
    · obtain ⟨g1, rfl, hg1, hc1⟩ := ha.2 (by omega)
      obtain ⟨g2, rfl, hg2, hc2⟩ := hb.2 (by omega)
      have e1 := hc1 j (by omega)
      have e2 := hc2 j (by omega)
      clear hc1 hc2 ha hb
      go_wp2
      go_quiet (fail)
      go_wp2
      go_roundg (gk - 1)
      case measure => omega
      case rel => exact ⟨j + 1, _, by omega, by go_num, rfl⟩
    · go_wp2
      go_ret
      exact ⟨rfl, _, rfl⟩

end Go.Proofs.Qxb6608989a
