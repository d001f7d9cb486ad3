/- The guards. -/
import Derived.Test.Qxb6609148aProg
import Derived.Test.Qxb6609148aLaws
import Derived.WalkKit
import Derived.WalkSpells
import Derived.WalkLawsBesides
import Derived.Deep.QuietTactic
import Derived.BigQuiet
import Derived.Deep.LoopGhost
import Derived.Deep.DeepCutAuto
namespace Go.Proofs.Qxb6609148a
open Go.RowKit

/-- A slice of strings, told by its cells. -/
def StrsAt (w : World) (a : Option Addr) (n : Nat) (F : Nat → ByteArray) : Prop :=
  0 < n → ∃ b off, a = some ⟨b, off, none⟩ ∧ b < w.heap.size ∧ ∀ i, i < n → w.cell? ⟨b, off + i, none⟩ = some (.string (F i))

theorem StrsAt.later {w w' : World} {a0 : Option Addr} {n : Nat} {F : Nat → ByteArray} (h : StrsAt w a0 n F) (hb : Below w.heap.size w w') : StrsAt w' a0 n F := by
  intro h0
  obtain ⟨b, off, rfl, hl, hc⟩ := h h0
  exact ⟨b, off, rfl, Nat.lt_of_lt_of_le hl hb.size, fun i hi => (hb.cell (p := ⟨b, off + i, none⟩) hl).trans (hc i hi)⟩

/-- The bytes of the first k strings. -/
def sumTo (F : Nat → ByteArray) : Nat → Nat
  | 0 => 0
  | k + 1 => sumTo F k + (F k).size

theorem sumTo_mono (F : Nat → ByteArray) {j n : Nat} (h : j ≤ n) : sumTo F j ≤ sumTo F n := by
  induction n with
  | zero => obtain rfl : j = 0 := by omega
            exact Nat.le_refl _
  | succ n ih =>
    by_cases e : j = n + 1
    · subst e; exact Nat.le_refl _
    · have := ih (by omega); rw [sumTo]; omega

/-- What the guard on lengths says: where it is true each string is short. -/
def Guarded (e : Ending) (n : Nat) (F : Nat → ByteArray) : Prop := ∃ r, e = .returned (.bool r) ∧ (r = true → ∀ i, i < n → (F i).size ≤ 1048576)
theorem Guarded.no (n : Nat) (F : Nat → ByteArray) : Guarded (.returned (.bool false)) n F := ⟨false, rfl, by simp⟩
theorem Guarded.yes {n : Nat} {F : Nat → ByteArray} (h : ∀ i, i < n → (F i).size ≤ 1048576) : Guarded (.returned (.bool true)) n F := ⟨true, rfl, fun _ => h⟩

set_option maxHeartbeats 400000 in
theorem zzBytes_any (a0 : Option Addr) (n cap : Nat) (F : Nat → ByteArray) (x : Int) (w : World) (hn : n ≤ 9223372036854775807) (hp : StrsAt w a0 n F) :
    Calls Try.prog 6 #[.slice a0 n cap, .int .i64 x] w fun e w' => Guarded e n F ∧ w = w' := by
  go_enter Try.func6, Try.ntmps6
  go_wp2
  all_goals first | (go_ret; exact ⟨Guarded.no _ _, rfl⟩) | skip
  go_loopg [5, 6] n (fun k t i wr => ∃ z : Int, ∃ j : Nat, k + j = n ∧ i = .int .i64 j ∧ t = .int .i64 z ∧ wr = w ∧ ∀ i, i < j → (F i).size ≤ 1048576)
  case atStart => exact ⟨_, 0, rfl, rfl, rfl, rfl, fun i hi => by omega⟩
  case round =>
    obtain ⟨z, j, hk, rfl, rfl, rfl, hF⟩ := hrel
    by_cases hlt : j < n
    · obtain ⟨b, off, rfl, hb, hc⟩ := hp (by omega)
      have c0 := hc j hlt
      clear hc hp
      go_wp2
      all_goals first | (go_ret; exact ⟨Guarded.no _ _, rfl⟩) | skip
      have hs : (F j).size ≤ 1048576 := by omega
      go_roundg (gk - 1)
      case measure => omega
      case rel => exact ⟨_, j + 1, by omega, by go_num, rfl, rfl, fun i hi => by rcases Nat.lt_succ_iff_lt_or_eq.1 hi with h | h; exact hF i h; subst h; exact hs⟩
    · obtain rfl : n = j := by omega
      go_wp2
      go_ret
      exact ⟨Guarded.yes hF, rfl⟩

/-- What stringsOver says: where it is false the strings are few and short. -/
def Over (e : Ending) (n : Nat) (F : Nat → ByteArray) : Prop := ∃ r, e = .returned (.bool r) ∧ (r = false → n ≤ 65536 ∧ 16 * n + sumTo F n ≤ 1048576)
theorem Over.yes (n : Nat) (F : Nat → ByteArray) : Over (.returned (.bool true)) n F := ⟨true, rfl, by simp⟩
theorem Over.no {n : Nat} {F : Nat → ByteArray} (h : n ≤ 65536) (h2 : 16 * n + sumTo F n ≤ 1048576) : Over (.returned (.bool false)) n F := ⟨false, rfl, fun _ => ⟨h, h2⟩⟩

set_option maxHeartbeats 400000 in
theorem stringsOver_any (a0 : Option Addr) (n cap : Nat) (F : Nat → ByteArray) (w : World) (hn : n ≤ 9223372036854775807) (hF : ∀ i, i < n → (F i).size ≤ 1048576) (hp : StrsAt w a0 n F) :
    Calls Try.prog 7 #[.slice a0 n cap, .int .i64 1048576] w fun e w' => Over e n F ∧ w = w' := by
  go_enter Try.func7, Try.ntmps7
  go_wp2
  all_goals first | (go_ret; exact ⟨Over.yes _ _, rfl⟩) | skip
  go_loopg [5, 6] n (fun k t i wr => ∃ j : Nat, k + j = n ∧ i = .int .i64 j ∧ t = .int .i64 (16 * n + sumTo F j : Nat) ∧ wr = w ∧ 16 * n + sumTo F j ≤ 1048576)
  case atStart => exact ⟨0, rfl, rfl, by simp [sumTo], rfl, by simp [sumTo]; omega⟩
  case round =>
    obtain ⟨j, hk, rfl, rfl, rfl, hS⟩ := hrel
    by_cases hlt : j < n
    · obtain ⟨b, off, rfl, hb, hc⟩ := hp (by omega)
      have c0 := hc j hlt
      have hs := hF j hlt
      clear hc hp hF
      go_wp2
      all_goals first | (go_ret; exact ⟨Over.yes _ _, rfl⟩) | skip
      go_roundg (gk - 1)
      case measure => omega
      case rel => exact ⟨j + 1, by omega, by go_num, by rw [sumTo]; go_num, rfl, by rw [sumTo]; omega⟩
    · obtain rfl : n = j := by omega
      go_wp2
      go_ret
      exact ⟨Over.no (by omega) hS, rfl⟩

set_option maxRecDepth 8000 in
set_option maxHeartbeats 1000000 in
theorem validUTF8_any (s : ByteArray) (w : World) (hs : s.size ≤ 1048576) :
    Calls Try.prog 20 #[.string s] w fun e w' => RetBool e ∧ w = w' := by
  go_enter Try.func20, Try.ntmps20
  go_wp2
  go_loopg [3, 4, 5, 6, 7, 8, 9] s.size (fun k i u4 u5 u6 u7 u8 u9 wr => ∃ j : Nat, k + j = s.size ∧ i = .int .i64 j ∧ wr = w)
  case atStart => exact ⟨0, by omega, rfl, rfl⟩
  case round =>
    obtain ⟨j, hk, rfl, rfl⟩ := hrel
    by_cases hlt : j < s.size
    · by_cases h0 : (s[j].toNat : Int) < 128
      · go_wp2
        go_roundg (gk - 1)
        case measure => omega
        case rel => exact ⟨j + 1, by omega, by go_num, rfl⟩
      · by_cases h1 : (bits .and .u8 (s[j].toNat : Int) 224 == 192) = true
        · go_wp2
          all_goals first | (go_ret; exact ⟨RetBool.mk _, rfl⟩) | skip
          obtain ⟨wo, rfl⟩ : ∃ wo : World, wo = wr := ⟨_, rfl⟩
          go_loopg [7, 8, 9] (2 - 1) (fun k r q u9 wr => ∃ z : Int, ∃ t : Nat, k + t = 2 ∧ 1 ≤ t ∧ q = .int .i64 t ∧ r = .int .i64 z ∧ wr = wo)
          case atStart => exact ⟨_, 1, rfl, Nat.le_refl _, rfl, rfl, rfl⟩
          case round =>
            obtain ⟨z, t, hkt, h1t, rfl, rfl, rfl⟩ := hrel
            by_cases hq : t < 2
            · have hjt : j + t < s.size := by omega
              go_wp2
              all_goals first | (go_ret; exact ⟨RetBool.mk _, rfl⟩) | skip
              go_roundg (gk - 1)
              case measure => omega
              case rel => exact ⟨_, t + 1, by omega, by omega, by go_num, rfl, rfl⟩
            · obtain rfl : t = 2 := by omega
              go_wp2
              all_goals first | (go_ret; exact ⟨RetBool.mk _, rfl⟩) | skip
              all_goals
                go_roundg (s.size - j - 2)
                case measure => omega
                case rel => exact ⟨j + 2, by omega, by go_num, rfl⟩
        · have h1' : (bits .and .u8 (s[j].toNat : Int) 224 == 192) = false := by simpa using h1
          clear h1
          by_cases h2 : (bits .and .u8 (s[j].toNat : Int) 240 == 224) = true
          · go_wp2
            all_goals first | (go_ret; exact ⟨RetBool.mk _, rfl⟩) | skip
            obtain ⟨wo, rfl⟩ : ∃ wo : World, wo = wr := ⟨_, rfl⟩
            go_loopg [7, 8, 9] (3 - 1) (fun k r q u9 wr => ∃ z : Int, ∃ t : Nat, k + t = 3 ∧ 1 ≤ t ∧ q = .int .i64 t ∧ r = .int .i64 z ∧ wr = wo)
            case atStart => exact ⟨_, 1, rfl, Nat.le_refl _, rfl, rfl, rfl⟩
            case round =>
              obtain ⟨z, t, hkt, h1t, rfl, rfl, rfl⟩ := hrel
              by_cases hq : t < 3
              · have hjt : j + t < s.size := by omega
                go_wp2
                all_goals first | (go_ret; exact ⟨RetBool.mk _, rfl⟩) | skip
                go_roundg (gk - 1)
                case measure => omega
                case rel => exact ⟨_, t + 1, by omega, by omega, by go_num, rfl, rfl⟩
              · obtain rfl : t = 3 := by omega
                go_wp2
                all_goals first | (go_ret; exact ⟨RetBool.mk _, rfl⟩) | skip
                all_goals
                  go_roundg (s.size - j - 3)
                  case measure => omega
                  case rel => exact ⟨j + 3, by omega, by go_num, rfl⟩
          · have h2' : (bits .and .u8 (s[j].toNat : Int) 240 == 224) = false := by simpa using h2
            clear h2
            by_cases h3 : (bits .and .u8 (s[j].toNat : Int) 248 == 240) = true
            · go_wp2
              all_goals first | (go_ret; exact ⟨RetBool.mk _, rfl⟩) | skip
              obtain ⟨wo, rfl⟩ : ∃ wo : World, wo = wr := ⟨_, rfl⟩
              go_loopg [7, 8, 9] (4 - 1) (fun k r q u9 wr => ∃ z : Int, ∃ t : Nat, k + t = 4 ∧ 1 ≤ t ∧ q = .int .i64 t ∧ r = .int .i64 z ∧ wr = wo)
              case atStart => exact ⟨_, 1, rfl, Nat.le_refl _, rfl, rfl, rfl⟩
              case round =>
                obtain ⟨z, t, hkt, h1t, rfl, rfl, rfl⟩ := hrel
                by_cases hq : t < 4
                · have hjt : j + t < s.size := by omega
                  go_wp2
                  all_goals first | (go_ret; exact ⟨RetBool.mk _, rfl⟩) | skip
                  go_roundg (gk - 1)
                  case measure => omega
                  case rel => exact ⟨_, t + 1, by omega, by omega, by go_num, rfl, rfl⟩
                · obtain rfl : t = 4 := by omega
                  go_wp2
                  all_goals first | (go_ret; exact ⟨RetBool.mk _, rfl⟩) | skip
                  all_goals
                    go_roundg (s.size - j - 4)
                    case measure => omega
                    case rel => exact ⟨j + 4, by omega, by go_num, rfl⟩
            · have h3' : (bits .and .u8 (s[j].toNat : Int) 248 == 240) = false := by simpa using h3
              clear h3
              go_wp2
              go_ret
              exact ⟨RetBool.mk _, rfl⟩
    · go_wp2
      go_ret
      exact ⟨RetBool.mk _, rfl⟩

set_option maxHeartbeats 400000 in
theorem allValid_any (a0 : Option Addr) (n cap : Nat) (F : Nat → ByteArray) (w : World) (hn : n ≤ 1048576) (hF : ∀ i, i < n → (F i).size ≤ 1048576) (hp : StrsAt w a0 n F) :
    Calls Try.prog 8 #[.slice a0 n cap] w fun e w' => RetBool e ∧ w = w' := by
  go_enter Try.func8, Try.ntmps8
  go_wp2
  go_loopg [3] n (fun k i wr => ∃ j : Nat, k + j = n ∧ i = .int .i64 j ∧ wr = w)
  case atStart => exact ⟨0, rfl, rfl, rfl⟩
  case round =>
    obtain ⟨j, hk, rfl, rfl⟩ := hrel
    by_cases hlt : j < n
    · obtain ⟨b, off, rfl, hb, hc⟩ := hp (by omega)
      have c0 := hc j hlt
      have hs := hF j hlt
      clear hc hp hF
      go_wp2_with fail
      refine (validUTF8_any _ _ hs).mono ?_
      rintro e w1 ⟨⟨r, rfl⟩, rfl⟩
      cases r
      · go_wp2
        go_ret
        exact ⟨RetBool.mk _, rfl⟩
      · go_wp2
        go_roundg (gk - 1)
        case measure => omega
        case rel => exact ⟨j + 1, by omega, by go_num, rfl⟩
    · go_wp2
      go_ret
      exact ⟨RetBool.mk _, rfl⟩
end Go.Proofs.Qxb6609148a
