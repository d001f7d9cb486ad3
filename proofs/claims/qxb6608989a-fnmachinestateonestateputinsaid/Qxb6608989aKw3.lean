import Derived.Test.Qxb6608989aKw2
import Derived.RegionTactic
import Derived.ChangeAlike
namespace Go.Proofs.Qxb6608989a
open Go.RowKit

theorem Try.info52 : (Try.prog.info? 52).map (fun i => (i.zero, i.size, i.bytes)) = some (some (.agg #[.string ByteArray.empty, .string ByteArray.empty]), 2, 32) := by kernel_rfl

/-- 'make([]T, n)' for whatever element type. -/
theorem make_any {P : Program} (t e : TypeId) (z : Value) (size bytes : Nat) (ht : P.underlying t = some (.slice e)) (hinfo : (P.info? e).map (fun i => (i.zero, i.size, i.bytes)) = some (some z, size, bytes))
    (kl kc : IntKind) (n : Nat) (hbytes : bytes * n ≤ 281474976710656) (h63 : n ≤ 9223372036854775807) (w : World) :
    (Instr.makeSlice t (.int kl (n : Int)) (.int kc (n : Int))).run P w = .ok (.slice (some ⟨w.heap.size, 0, none⟩) n n) (w.alloc (.cells (madeCells z.cells (n * size)) e)) := by
  obtain ⟨i, hi, hz, hs, hb⟩ := info_parts hinfo
  have hb' : (i.bytes : Int) * (n : Int) ≤ 281474976710656 := by
    have h : ((i.bytes * n : Nat) : Int) ≤ 281474976710656 := by rw [hb]; omega
    rwa [Int.natCast_mul] at h
  have hr := run_make (P := P) w t e i z ht hi hz kl kc n n (by omega) (Int.le_refl _) hb' (by omega)
  simp only [Int.toNat_natCast, hs] at hr
  exact hr

theorem set_new (w : World) (C : Array Value) (t : TypeId) (m i : Nat) (v : Value) : ((w.alloc (.cells C t)).drewN m).setCell ⟨w.heap.size, i, none⟩ v = (w.alloc (.cells (C.setIfInBounds i v) t)).drewN m := by
  induction m with
  | zero => exact World.setCell_alloc_at _ _ _ _ _ rfl
  | succ m ih =>
    show (((w.alloc (.cells C t)).drewN m).drew).setCell _ _ = _
    rw [World.setCell_drew, ih]; rfl

theorem pairs_set {C : Array Value} {n j : Nat} {S : Nat → Nat → ByteArray} (hs : C.size = n * 2) (hj : j < n) (h : ∀ i, i < j → C[i * 2]? = some (.string (S i 0)) ∧ C[i * 2 + 1]? = some (.string (S i 1))) :
    ∀ i, i < j + 1 → ((C.setIfInBounds (j * 2) (.string (S j 0))).setIfInBounds (j * 2 + 1) (.string (S j 1)))[i * 2]? = some (.string (S i 0)) ∧ ((C.setIfInBounds (j * 2) (.string (S j 0))).setIfInBounds (j * 2 + 1) (.string (S j 1)))[i * 2 + 1]? = some (.string (S i 1)) := by
  intro i hi
  simp only [Array.getElem?_setIfInBounds, Array.size_setIfInBounds]
  by_cases e : i = j
  · subst e
    rw [if_neg (by omega), if_pos rfl, if_pos (by omega), if_pos rfl, if_pos (by omega)]
    exact ⟨rfl, rfl⟩
  · rw [if_neg (by omega), if_neg (by omega), if_neg (by omega), if_neg (by omega)]
    exact h i (by omega)

theorem OwnStrs.mono {w : World} {B B' : Nat} {v : Value} {L : List ByteArray} (h : OwnStrs w B v L) (hB : B' ≤ B) : OwnStrs w B' v L := by
  rcases h with h | ⟨h, g, cap, hv, hb, r⟩
  · exact .inl h
  · exact .inr ⟨h, g, cap, hv, by omega, r⟩

theorem below_drewN {B : Nat} {w : World} (m : Nat) : Below B w (w.drewN m) := by
  induction m with
  | zero => exact Below.refl _ _
  | succ m ih => exact ih.drew

set_option maxHeartbeats 400000 in
theorem ZZkeysIn_any (a0 : Option Addr) (n cap : Nat) (S : Nat → Nat → ByteArray) (sc : ByteArray) (w : World) (hn : n ≤ 1048576) (hp : PairsAt w a0 n S) :
    Calls Try.prog 9 #[.slice a0 n cap, .string sc] w fun e w' => ∃ v, e = .returned v ∧ OwnStrs w' w.heap.size v (keysTo S sc n) ∧ Below w.heap.size w w' := by
  have hmk := make_any (P := Try.prog) 50 52 _ 2 32 Try.underlying50 Try.info52 .i64 .i64 n (by omega) (by omega)
  obtain ⟨C0, hC0⟩ : ∃ C0, C0 = madeCells (Value.agg #[.string ByteArray.empty, .string ByteArray.empty]).cells (n * 2) := ⟨_, rfl⟩
  have hC0s : C0.size = n * 2 := by rw [hC0]; exact size_madeCells _ _
  rw [← hC0] at hmk
  clear hC0
  go_enter Try.func9, Try.ntmps9
  go_wp2
  go_loopg [6] n (fun k i wr => ∃ j m : Nat, ∃ C : Array Value, k + j = n ∧ i = .int .i64 j ∧ wr = (w.alloc (.cells C 52)).drewN m ∧ C.size = n * 2 ∧ ∀ i, i < j → C[i * 2]? = some (.string (S i 0)) ∧ C[i * 2 + 1]? = some (.string (S i 1)))
  case atStart => exact ⟨0, 0, C0, by omega, rfl, rfl, hC0s, by omega⟩
  case round =>
    obtain ⟨j, m, C, hk, rfl, rfl, hCs, hC⟩ := hrel
    have HC : Hid (C.size = n * 2 ∧ ∀ i, i < j → C[i * 2]? = some (.string (S i 0)) ∧ C[i * 2 + 1]? = some (.string (S i 1))) := ⟨hCs, hC⟩
    by_cases hlt : j < n
    · obtain ⟨b, off, rfl, hb, hc⟩ := hp (by omega)
      obtain ⟨c0, c1⟩ := hc j (by omega)
      obtain ⟨x0, hx0⟩ : ∃ x, C[j * 2]? = some x := ⟨_, Array.getElem?_eq_getElem (by omega)⟩
      obtain ⟨x1, hx1⟩ : ∃ x, C[j * 2 + 1]? = some x := ⟨_, Array.getElem?_eq_getElem (by omega)⟩
      clear hc hp hmk hC hCs
      go_wp2
      go_region
      go_wp2
      go_roundg (gk - 1)
      case measure => omega
      case rel => exact ⟨j + 1, m + 1, (C.setIfInBounds (j * 2) (.string (S j 0))).setIfInBounds (j * 2 + 1) (.string (S j 1)), by omega, by go_num, by rw [set_new, set_new], by simpa using HC.out.1, pairs_set HC.out.1 hlt HC.out.2⟩
    · obtain rfl : j = n := by omega
      go_wp2_with fail
      refine (keysIn_any _ _ _ S _ _ hn ?_).mono ?_
      · intro h0
        refine ⟨w.heap.size, 0, rfl, by simp, fun i hi => ?_⟩
        obtain ⟨h1, h2⟩ := hC i hi
        exact ⟨by simpa using h1, by simpa using h2⟩
      · rintro e w' ⟨v, rfl, hv, hbel⟩
        go_wp2
        go_ret
        exact ⟨v, rfl, hv.mono (by simp), ((Below.refl _ _).alloc (Nat.le_refl _) _).trans ((below_drewN m).trans (hbel.mono (by simp)))⟩
end Go.Proofs.Qxb6608989a
