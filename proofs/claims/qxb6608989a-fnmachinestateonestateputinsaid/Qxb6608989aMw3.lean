/- The walk of toStates. -/
import Derived.Test.Qxb6608989aMw2
namespace Go.Proofs.Qxb6608989a
open Go.RowKit

theorem Try.info37 : (Try.prog.info? 37).map (fun i => (i.zero, i.size, i.bytes)) = some (some (.agg #[.string ByteArray.empty, .bool false, .bool false, .pointer none]), 4, 32) := by kernel_rfl

/-- The first j states of T lie in the array of block g. -/
def StatesIn (C : Array Value) (w : World) (g : Nat) (T : Nat → Zs) (j : Nat) : Prop :=
  ∀ i, i < j → ∃ p, C[i * 4]? = some (.string (T i).name) ∧ C[i * 4 + 1]? = some (.bool (T i).ended) ∧ C[i * 4 + 2]? = some (.bool (T i).worked) ∧ C[i * 4 + 3]? = some (.pointer p) ∧ RetryAt w (.pointer p) (T i).retry ∧ ∀ b o, p = some ⟨b, o, none⟩ → b ≠ g

theorem StatesIn.later {C : Array Value} {w w' : World} {g : Nat} {T : Nat → Zs} {j : Nat} (h : StatesIn C w g T j) (hb : Below w.heap.size w w') : StatesIn C w' g T j := by
  intro i hi
  obtain ⟨p, c0, c1, c2, c3, hr, hn⟩ := h i hi
  exact ⟨p, c0, c1, c2, c3, hr.later hb, hn⟩

def put4 (C : Array Value) (o : Nat) (v0 v1 v2 v3 : Value) : Array Value := (((C.setIfInBounds o v0).setIfInBounds (o + 1) v1).setIfInBounds (o + 2) v2).setIfInBounds (o + 3) v3
def set4 (w : World) (g o : Nat) (v0 v1 v2 v3 : Value) : World := (((w.setCell ⟨g, o, none⟩ v0).setCell ⟨g, o + 1, none⟩ v1).setCell ⟨g, o + 2, none⟩ v2).setCell ⟨g, o + 3, none⟩ v3

theorem size_put4 (C : Array Value) (o : Nat) (v0 v1 v2 v3 : Value) : (put4 C o v0 v1 v2 v3).size = C.size := by simp [put4]
theorem heap_set4 {w : World} {g : Nat} {C : Array Value} {t : TypeId} (h : w.heap[g]? = some (.cells C t (0, 0))) (o : Nat) (v0 v1 v2 v3 : Value) : (set4 w g o v0 v1 v2 v3).heap[g]? = some (.cells (put4 C o v0 v1 v2 v3) t (0, 0)) :=
  heap_setCell_same _ g _ _ t _ (heap_setCell_same _ g _ _ t _ (heap_setCell_same _ g _ _ t _ (heap_setCell_same _ g _ _ t _ h)))
theorem below_set4 {B g : Nat} {w0 w : World} (h : Below B w0 w) (hg : B ≤ g) (o : Nat) (v0 v1 v2 v3 : Value) : Below B w0 (set4 w g o v0 v1 v2 v3) :=
  (((h.setCell (p := ⟨g, o, none⟩) hg _).setCell (p := ⟨g, o + 1, none⟩) hg _).setCell (p := ⟨g, o + 2, none⟩) hg _).setCell (p := ⟨g, o + 3, none⟩) hg _
theorem retry_set4 {w : World} {a : Option Addr} {r : Option Rt} (h : RetryAt w (.pointer a) r) {g : Nat} (hp : ∀ b o, a = some ⟨b, o, none⟩ → b ≠ g) (o : Nat) (v0 v1 v2 v3 : Value) : RetryAt (set4 w g o v0 v1 v2 v3) (.pointer a) r :=
  (((h.setCell (p := ⟨g, o, none⟩) hp _).setCell (p := ⟨g, o + 1, none⟩) hp _).setCell (p := ⟨g, o + 2, none⟩) hp _).setCell (p := ⟨g, o + 3, none⟩) hp _
theorem put4_old {C : Array Value} {j k : Nat} (v0 v1 v2 v3 : Value) (h : k < j * 4) : (put4 C (j * 4) v0 v1 v2 v3)[k]? = C[k]? := by
  simp only [put4, Array.getElem?_setIfInBounds]
  rw [if_neg (by omega), if_neg (by omega), if_neg (by omega), if_neg (by omega)]
theorem put4_new {C : Array Value} {o : Nat} (v0 v1 v2 v3 : Value) (h : o + 4 ≤ C.size) : (put4 C o v0 v1 v2 v3)[o]? = some v0 ∧ (put4 C o v0 v1 v2 v3)[o + 1]? = some v1 ∧ (put4 C o v0 v1 v2 v3)[o + 2]? = some v2 ∧ (put4 C o v0 v1 v2 v3)[o + 3]? = some v3 := by
  simp only [put4, Array.getElem?_setIfInBounds, Array.size_setIfInBounds]
  refine ⟨?_, ?_, ?_, ?_⟩
  · rw [if_neg (by omega), if_neg (by omega), if_neg (by omega), if_pos trivial, if_pos (by omega)]
  · rw [if_neg (by omega), if_neg (by omega), if_pos trivial, if_pos (by omega)]
  · rw [if_neg (by omega), if_pos trivial, if_pos (by omega)]
  · rw [if_pos trivial, if_pos (by omega)]

theorem StatesIn.put {C : Array Value} {w : World} {g : Nat} {T : Nat → Zs} {j n : Nat} (h : StatesIn C w g T j) (hs : C.size = n * 4) (hj : j < n) {p : Option Addr} (hr : RetryAt w (.pointer p) (T j).retry) (hp : ∀ b o, p = some ⟨b, o, none⟩ → b ≠ g) :
    StatesIn (put4 C (j * 4) (.string (T j).name) (.bool (T j).ended) (.bool (T j).worked) (.pointer p)) (set4 w g (j * 4) (.string (T j).name) (.bool (T j).ended) (.bool (T j).worked) (.pointer p)) g T (j + 1) := by
  intro i hi
  by_cases e : i = j
  · subst e
    obtain ⟨e0, e1, e2, e3⟩ := put4_new (C := C) (o := i * 4) (.string (T i).name) (.bool (T i).ended) (.bool (T i).worked) (.pointer p) (by omega)
    exact ⟨p, e0, e1, e2, e3, retry_set4 hr hp _ _ _ _ _, hp⟩
  · obtain ⟨p', c0, c1, c2, c3, hr', hn⟩ := h i (by omega)
    exact ⟨p', (put4_old _ _ _ _ (by omega)).trans c0, (put4_old _ _ _ _ (by omega)).trans c1, (put4_old _ _ _ _ (by omega)).trans c2, (put4_old _ _ _ _ (by omega)).trans c3, retry_set4 hr' hn _ _ _ _ _, hn⟩

theorem StatesIn.at_ {C : Array Value} {w : World} {g : Nat} {T : Nat → Zs} {n : Nat} {t : TypeId} (h : StatesIn C w g T n) (hg : w.heap[g]? = some (.cells C t (0, 0))) : StatesAt w (some ⟨g, 0, none⟩) n T := by
  intro _
  refine ⟨g, 0, rfl, (Array.getElem?_eq_some_iff.1 hg).1, fun i hi => ?_⟩
  obtain ⟨p, c0, c1, c2, c3, hr, _⟩ := h i hi
  have e : ∀ k, w.cell? ⟨g, k, none⟩ = C[k]? := fun k => by simp [World.cell?, hg]
  exact ⟨_, by rw [e]; simpa using c0, by rw [e]; simpa using c1, by rw [e]; simpa using c2, by rw [e]; simpa using c3, hr⟩

set_option maxHeartbeats 400000 in
theorem toStates_any (a0 : Option Addr) (n cap : Nat) (T : Nat → Zs) (w : World) (hn : n ≤ 1048576) (hp : StatesAt w a0 n T) (hnil : a0 = none → n = 0) :
    Calls Try.prog 25 #[.slice a0 n cap] w fun e w' => ∃ a1, e = .returned (.slice a1 n n) ∧ StatesAt w' a1 n T ∧ Below w.heap.size w w' := by
  have hq := fun w => Lib.run_eql_slice_nil (P := Try.prog) w 31 46 a0 n cap 0 0 Try.underlying31
  have hmk := make_any (P := Try.prog) 59 37 _ 4 32 Try.underlying59 Try.info37 .i64 .i64 n (by omega) (by omega)
  obtain ⟨C0, hC0⟩ : ∃ C0, C0 = madeCells (Value.agg #[.string ByteArray.empty, .bool false, .bool false, .pointer none]).cells (n * 4) := ⟨_, rfl⟩
  have HC0 : Hid (C0.size = n * 4) := by rw [hC0]; exact size_madeCells _ _
  rw [← hC0] at hmk
  clear hC0
  cases a0 with
  | none =>
    obtain rfl : n = 0 := hnil rfl
    clear hmk
    go_enter Try.func25, Try.ntmps25
    go_wp2
    go_ret
    exact ⟨_, rfl, fun h => absurd h (by omega), Below.refl _ _⟩
  | some a =>
    clear hnil
    go_enter Try.func25, Try.ntmps25
    go_wp2
    clear hmk hq
    go_loopg [4] n (fun k i wr => ∃ j : Nat, ∃ C : Array Value, k + j = n ∧ i = .int .i64 j ∧ wr.heap[w.heap.size]? = some (.cells C 37 (0, 0)) ∧ C.size = n * 4 ∧ StatesIn C wr w.heap.size T j ∧ Below w.heap.size w wr)
    case atStart => exact ⟨0, C0, by omega, rfl, heap_alloc_new w _, HC0.out, fun i hi => by omega, (Below.refl _ _).alloc (Nat.le_refl _) _⟩
    case round =>
      obtain ⟨j, C, hk, rfl, hg, hCs, hin, hbel⟩ := hrel
      have hgs : w.heap.size < wr.heap.size := (Array.getElem?_eq_some_iff.1 hg).1
      by_cases hlt : j < n
      · have hp2 := hp.later hbel
        obtain ⟨b, off, hab, hb, hc⟩ := hp2 (by omega)
        obtain rfl : a = ⟨b, off, none⟩ := by simpa using hab
        obtain ⟨q, c0, c1, c2, c3, hr⟩ := hc j hlt
        have HG : Hid (wr.heap[w.heap.size]? = some (.cells C 37 (0, 0)) ∧ C.size = n * 4) := ⟨hg, hCs⟩
        clear hc hp2 hp hab hg hCs
        go_wp2_with fail
        refine (toState_any (T j) q _ hr).mono ?_
        rintro e w1 ⟨p, rfl, hr1, hfr, hb1⟩
        have hg1 : w1.heap[w.heap.size]? = some (.cells C 37 (0, 0)) := (hb1.block _ hgs).trans HG.out.1
        have hcs := HG.out.2
        have f : ∀ o, w1.frozen? ⟨w.heap.size, o, none⟩ = false := fun o => by simp [World.frozen?, hg1]
        have e0 : w1.cell? ⟨w.heap.size, j * 4, none⟩ = some (C.getD (j * 4) undef) := by simp [World.cell?, hg1, show j * 4 < C.size by omega]
        have e1 : w1.cell? ⟨w.heap.size, j * 4 + 1, none⟩ = some (C.getD (j * 4 + 1) undef) := by simp [World.cell?, hg1, show j * 4 + 1 < C.size by omega]
        have e2 : w1.cell? ⟨w.heap.size, j * 4 + 2, none⟩ = some (C.getD (j * 4 + 2) undef) := by simp [World.cell?, hg1, show j * 4 + 2 < C.size by omega]
        have e3 : w1.cell? ⟨w.heap.size, j * 4 + 3, none⟩ = some (C.getD (j * 4 + 3) undef) := by simp [World.cell?, hg1, show j * 4 + 3 < C.size by omega]
        have hin1 := (hin.later hb1).put hcs hlt hr1 (fun b o h => by have := hfr b o h; omega)
        have hbel1 := below_set4 (hbel.trans (hb1.mono (by omega))) (Nat.le_refl _) (j * 4) (.string (T j).name) (.bool (T j).ended) (.bool (T j).worked) (.pointer p)
        have HG1 : Hid (w1.heap[w.heap.size]? = some (.cells C 37 (0, 0)) ∧ C.size = n * 4) := ⟨hg1, hcs⟩
        clear hg1 hcs hin hbel hb1 hr c0 c1 c2 c3 HG hr1
        go_wp2
        go_roundg (gk - 1)
        case measure => omega
        case rel => exact ⟨j + 1, _, by omega, by go_num, heap_set4 HG1.out.1 _ _ _ _ _, (size_put4 _ _ _ _ _ _).trans HG1.out.2, hin1, hbel1⟩
      · obtain rfl : j = n := by omega
        go_wp2
        go_ret
        exact ⟨_, rfl, hin.at_ hg, hbel⟩
end Go.Proofs.Qxb6608989a
