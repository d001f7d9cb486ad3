/- The walks of zzBytes and pairsFit. -/
import Derived.Test.Qxb6608989aProg
import Derived.WalkKit
import Derived.WalkSpells
import Derived.WalkLawsBesides
import Derived.Deep.QuietTactic
import Derived.BigQuiet
import Derived.Deep.LoopGhost
namespace Go.Proofs.Qxb6608989a
open Go.RowKit

/-- A slice of pairs of strings, told by its cells. -/
def PairsAt (w : World) (a0 : Option Addr) (n : Nat) (S : Nat → Nat → ByteArray) : Prop :=
  0 < n → ∃ b off, a0 = some ⟨b, off, none⟩ ∧ b < w.heap.size ∧ ∀ i, i < n → w.cell? ⟨b, off + i * 2, none⟩ = some (.string (S i 0)) ∧ w.cell? ⟨b, off + i * 2 + 1, none⟩ = some (.string (S i 1))

def RetBool (e : Ending) : Prop := ∃ r, e = .returned (.bool r)
theorem RetBool.mk (r : Bool) : RetBool (.returned (.bool r)) := ⟨r, rfl⟩
def Drawn (w w' : World) : Prop := ∃ m, w' = w.drewN m
theorem Drawn.refl (w : World) : Drawn w w := ⟨0, rfl⟩

set_option maxHeartbeats 400000 in
theorem pairsFit_any (a0 : Option Addr) (n cap : Nat) (S : Nat → Nat → ByteArray) (x : Int) (w : World) (hn : n ≤ 1048576) (hp : PairsAt w a0 n S) :
    Calls Try.prog 8 #[.slice a0 n cap, .int .i64 x] w fun e w' => RetBool e ∧ Drawn w w' := by
  go_enter Try.func8, Try.ntmps8
  go_wp2
  · go_ret
    exact ⟨RetBool.mk _, Drawn.refl _⟩
  · go_loopg [5, 6] n (fun k t i wr => ∃ z : Int, ∃ j : Nat, k + j = n ∧ i = .int .i64 j ∧ t = .int .i64 z ∧ ∃ m, wr = w.drewN m)
    case atStart => exact ⟨_, 0, rfl, rfl, rfl, 0, rfl⟩
    case round =>
      obtain ⟨z, j, hk, rfl, rfl, m, rfl⟩ := hrel
      by_cases hlt : j < n
      · obtain ⟨b, off, rfl, hb, hc⟩ := hp (by omega)
        obtain ⟨c0, c1⟩ := hc j hlt
        clear hc hp
        go_wp2
        · go_ret
          exact ⟨RetBool.mk _, _, rfl⟩
        · go_quiet (fail)
          go_wp2
          · go_ret
            exact ⟨RetBool.mk _, _, rfl⟩
          · go_roundg (gk - 1)
            case measure => omega
            case rel => exact ⟨_, j + 1, by omega, by go_num, rfl, _, rfl⟩
        · go_ret
          exact ⟨RetBool.mk _, _, rfl⟩
      · go_wp2
        go_ret
        exact ⟨RetBool.mk _, _, rfl⟩

set_option maxHeartbeats 1000000 in
theorem zzBytes7_any (a0 : Option Addr) (n cap : Nat) (S : Nat → Nat → ByteArray) (sc : ByteArray) (x : Int) (w : World) (hn : n ≤ 9223372036854775807) (hp : PairsAt w a0 n S) :
    Calls Try.prog 7 #[.slice a0 n cap, .string sc, .int .i64 x] w fun e w' => RetBool e ∧ w = w' := by
  go_enter Try.func7, Try.ntmps7
  go_wp2
  · go_ret
    exact ⟨RetBool.mk _, rfl⟩
  · go_loopg [7, 8, 9] n (fun k t i u wr => ∃ z : Int, ∃ j : Nat, k + j = n ∧ i = .int .i64 j ∧ t = .int .i64 z ∧ wr = w)
    case atStart => exact ⟨_, 0, rfl, rfl, rfl, rfl⟩
    case round =>
      obtain ⟨z, j, hk, rfl, rfl, rfl⟩ := hrel
      by_cases hlt : j < n
      · obtain ⟨b, off, rfl, hb, hc⟩ := hp (by omega)
        obtain ⟨c0, c1⟩ := hc j hlt
        clear hc hp
        go_wp2
        obtain ⟨wo, rfl⟩ : ∃ wo : World, wo = wr := ⟨_, rfl⟩
        go_loopg [7, 9] 2 (fun k t u wr => ∃ z : Int, ∃ i : Nat, k + i = 2 ∧ u = .int .i64 i ∧ t = .int .i64 z ∧ wr = wo)
        case atStart => exact ⟨_, 0, rfl, rfl, rfl, rfl⟩
        case round =>
          obtain ⟨z, i, hki, rfl, rfl, rfl⟩ := hrel
          by_cases hi0 : i = 0
          · subst hi0
            go_wp2
            · go_ret
              exact ⟨RetBool.mk _, rfl⟩
            · go_ret
              exact ⟨RetBool.mk _, rfl⟩
            · go_roundg 1
              case measure => omega
              case rel => exact ⟨_, 1, rfl, rfl, rfl, rfl⟩
          · by_cases hi1 : i = 1
            · subst hi1
              go_wp2
              · go_ret
                exact ⟨RetBool.mk _, rfl⟩
              · go_ret
                exact ⟨RetBool.mk _, rfl⟩
              · go_roundg 0
                case measure => omega
                case rel => exact ⟨_, 2, rfl, rfl, rfl, rfl⟩
            · obtain rfl : i = 2 := by omega
              go_wp2
              go_roundg (n - j - 1)
              case measure => omega
              case rel => exact ⟨_, j + 1, by omega, by go_num, rfl, rfl⟩
      · go_wp2
        all_goals
          go_ret
          exact ⟨RetBool.mk _, rfl⟩
end Go.Proofs.Qxb6608989a
