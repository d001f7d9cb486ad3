import Derived.Test.Qxb6608989aKw1
import Derived.Test.Qxb6608989aPlain
namespace Go.Proofs.Qxb6608989a
open Go.RowKit

theorem ret_int {k : IntKind} {a b : Int} (h : a = b) : Ending.returned (.int k a) = .returned (.int k b) := by rw [h]

set_option maxHeartbeats 400000 in
theorem countScope_any (a0 : Option Addr) (n cap : Nat) (S : Nat → Nat → ByteArray) (sc : ByteArray) (q : Nat) (w : World) (hn : n ≤ 1048576) (hq : q ≤ n) (hp : PairsAt w a0 n S) :
    Calls Try.prog 10 #[.slice a0 n cap, .string sc, .int .i64 0, .int .i64 q] w fun e w' => e = .returned (.int .i64 (keysTo S sc q).length) ∧ w = w' := by
  go_enter Try.func10, Try.ntmps10
  go_wp2
  go_loopg [9, 10] q (fun k t i wr => ∃ j : Nat, k + j = q ∧ i = .int .i64 j ∧ t = .int .i64 (keysTo S sc j).length ∧ wr = w)
  case atStart => exact ⟨0, rfl, rfl, rfl, rfl⟩
  case round =>
    obtain ⟨j, hk, rfl, rfl, rfl⟩ := hrel
    have hkl := keysTo_le S sc j
    by_cases hlt : j < q
    · obtain ⟨b, off, rfl, hb, hc⟩ := hp (by omega)
      obtain ⟨c0, c1⟩ := hc j (by omega)
      clear hc hp
      go_wp2
      · have ht : ((S j 0).toList == sc.toList) = true := by assumption
        have e := keysTo_hit S sc j ht
        go_roundg (gk - 1)
        case measure => omega
        case rel => exact ⟨j + 1, by omega, by go_num, by rw [e]; simp, rfl⟩
      · have ht : ((S j 0).toList == sc.toList) = false := by assumption
        have e := keysTo_miss S sc j ht
        go_roundg (gk - 1)
        case measure => omega
        case rel => exact ⟨j + 1, by omega, by go_num, by rw [e], rfl⟩
    · obtain rfl : j = q := by omega
      go_wp2
      go_ret
      exact ⟨rfl, rfl⟩

theorem Try.info9 : (Try.prog.info? 9).map (fun i => (i.zero, i.size, i.bytes)) = some (some (.string ByteArray.empty), 1, 16) := by kernel_rfl

/-- A slice of strings that the call made: nil where there is none. -/
def OwnStrs (w : World) (B : Nat) (v : Value) (L : List ByteArray) : Prop :=
  (L = [] ∧ v = .slice none 0 0) ∨ (L ≠ [] ∧ ∃ g cap, v = .slice (some ⟨g, 0, none⟩) L.length cap ∧ B ≤ g ∧ g < w.heap.size ∧ ∀ i, i < L.length → w.cell? ⟨g, i, none⟩ = some (.string (L.getD i ByteArray.empty)))

theorem one_new (w : World) (v : Value) (t : TypeId) (h : Nat) (hh : h = w.heap.size) : ∀ j u, [v][j]? = some u → (w.alloc (.cells #[v] t)).cell? ((⟨h, 0, none⟩ : Addr).add j) = some u := by
  subst hh
  intro j u hj
  match j, hj with
  | 0, hj => simp at hj; subst hj; simp [Addr.add]

theorem ownBlock_ge {w : World} {B : Nat} {e : TypeId} {size : Nat} {v : Value} {n : Nat} {xs : List Value} (h : w.ownsRow B e size v n xs) {k : Nat} (hk : v.ownBlock = some k) : B ≤ k := by
  rcases h.2 with ⟨rfl, _⟩ | ⟨g, cap, cur, rfl, hb, _⟩
  · simp [Value.ownBlock] at hk
  · simp [Value.ownBlock] at hk; omega

theorem ownStrs_of_row {w : World} {B : Nat} {v : Value} {L : List ByteArray} (h : w.ownsRow B 9 1 v L.length (L.map Value.string)) (hn : L = [] → v = .slice none 0 0) : OwnStrs w B v L := by
  by_cases hL : L = []
  · exact .inl ⟨hL, hn hL⟩
  · refine .inr ⟨hL, ?_⟩
    rcases h.2 with ⟨_, h0⟩ | ⟨g, cap, cur, rfl, hb, hg, _⟩
    · exact absurd (List.eq_nil_of_length_eq_zero h0) hL
    · refine ⟨g, cap, rfl, hb, (Array.getElem?_eq_some_iff.1 hg).1, fun i hi => ?_⟩
      rw [h.cellAt i (by omega)]
      simp [hi]

set_option maxHeartbeats 400000 in
theorem keysIn_any (a0 : Option Addr) (n cap : Nat) (S : Nat → Nat → ByteArray) (sc : ByteArray) (w : World) (hn : n ≤ 1048576) (hp : PairsAt w a0 n S) :
    Calls Try.prog 23 #[.slice a0 n cap, .string sc] w fun e w' => ∃ v, e = .returned v ∧ OwnStrs w' w.heap.size v (keysTo S sc n) ∧ Below w.heap.size w w' := by
  obtain ⟨i0, hi, hz0, hz1, hz2⟩ := info_parts Try.info9
  go_enter Try.func23, Try.ntmps23
  go_wp2
  go_loopg [5, 7, 10] n (fun k v u i wr => ∃ j : Nat, k + j = n ∧ i = .int .i64 j ∧ wr.ownsRow w.heap.size 9 1 v (keysTo S sc j).length ((keysTo S sc j).map Value.string) ∧ Below w.heap.size w wr ∧ (keysTo S sc j = [] → v = .slice none 0 0))
  case atStart => exact ⟨0, rfl, rfl, World.ownsRow_nil _ _ _ _, Below.refl _ _, fun _ => rfl⟩
  case round =>
    obtain ⟨j, hk, rfl, hown, hbel, hnil⟩ := hrel
    have hkl := keysTo_le S sc j
    have hsz := hbel.size
    by_cases hlt : j < n
    · obtain ⟨b, off, rfl, hb, hc⟩ := hp (by omega)
      obtain ⟨c0, c1⟩ := hc j (by omega)
      have d0 := (hbel.cell (p := ⟨b, off + j * 2, none⟩) hb).trans c0
      have d1 := (hbel.cell (p := ⟨b, off + j * 2 + 1, none⟩) hb).trans c1
      clear hc hp c0 c1
      go_wp2_with (at_builtin; go_loud (refine wpList_append_own _ rfl _ _ 25 rfl w.heap.size 9 i0 (.string ByteArray.empty) 1 16 Try.underlying25 hi hz0 hz1 hz2 rfl (by decide) _ _ _ rfl ((hown.alloc _).alloc _) ⟨wr.heap.size + 1, 0, none⟩ 1 1 [.string (S j 1)] rfl rfl ?c1 ?c2 ?c3 ?c4 ?c5 ?_))
      case c1 => exact one_new _ _ _ _ (by simp)
      case c2 => intro u hu; simp at hu; subst hu; rfl
      case c3 => unfold maxLen; omega
      case c4 => omega
      case c5 => simp; omega
      · intro v' w1 hown' hgrow hne
        have ht : ((S j 0).toList == sc.toList) = true := by assumption
        have e := keysTo_hit S sc j ht
        have hb1 : Below w.heap.size w w1 := by
          refine ((hbel.alloc hsz _).alloc (by simp; omega) _).grown hgrow (by simp; omega) ?_
          intro k hk
          exact ownBlock_ge hown hk
        have ho1 : w1.ownsRow w.heap.size 9 1 v' (keysTo S sc (j + 1)).length ((keysTo S sc (j + 1)).map Value.string) := by
          rw [e]; simpa using hown'
        have hn1 : keysTo S sc (j + 1) ≠ [] := by rw [e]; simp
        clear hown' hgrow hown d0 d1 e hnil
        go_wp2
        go_roundg (gk - 1)
        case measure => omega
        case rel => exact ⟨j + 1, by omega, by go_num, ho1, hb1, fun h => absurd h hn1⟩
      · have ht : ((S j 0).toList == sc.toList) = false := by assumption
        have e := keysTo_miss S sc j ht
        go_roundg (gk - 1)
        case measure => omega
        case rel => exact ⟨j + 1, by omega, by go_num, by rw [e]; exact hown.alloc _, hbel.alloc hsz _, by rw [e]; exact hnil⟩
    · obtain rfl : j = n := by omega
      go_wp2
      go_ret
      refine ⟨_, rfl, ?_, hbel⟩
      exact ownStrs_of_row hown hnil
end Go.Proofs.Qxb6608989a
