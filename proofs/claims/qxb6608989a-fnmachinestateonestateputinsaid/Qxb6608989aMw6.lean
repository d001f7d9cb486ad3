/- The walks of (Machine).state and ZZmachineState. -/
import Derived.Test.Qxb6608989aMw5
namespace Go.Proofs.Qxb6608989a
open Go.RowKit

theorem RetryAt.ptr {w : World} {q : Value} {r : Option Rt} (h : RetryAt w q r) : ∃ p, q = .pointer p := by
  cases r with
  | none => exact ⟨_, h⟩
  | some r => obtain ⟨b, o, rfl, _⟩ := h; exact ⟨_, rfl⟩

theorem RetryAt.lt {w : World} {p : Option Addr} {r : Option Rt} (h : RetryAt w (.pointer p) r) {b o : Nat} (hp : p = some ⟨b, o, none⟩) : b < w.heap.size := by
  subst hp
  cases r with
  | none => simp [RetryAt] at h
  | some r =>
    obtain ⟨b', o', e, hl, _⟩ := h
    simp at e
    omega

theorem pickTo_some {T : Nat → Zs} {nm : ByteArray} {n i : Nat} (h : fstTo T nm n = some i) : pickTo T nm n = T i := by rw [pickTo, h]
theorem pickTo_none {T : Nat → Zs} {nm : ByteArray} {n : Nat} (h : fstTo T nm n = none) : pickTo T nm n = zeroZs := by rw [pickTo, h]

set_option maxHeartbeats 400000 in
theorem state_any (wb : World) (g : Nat) (nm : ByteArray) (a : Option Addr) (n c : Nat) (T : Nat → Zs) (w : World) (hn : n ≤ 1048576) (hg : g < w.heap.size) (hc : w.cell? ⟨g, 3, none⟩ = some (.slice a n c)) (hpb : StatesAt wb a n T) (hbb : Below wb.heap.size wb w) :
    Calls Try.prog 24 #[.pointer (some ⟨g, 0, none⟩), .string nm] w fun e w' => ∃ p, e = .returned (zv (pickTo T nm n) (.pointer p)) ∧ RetryAt wb (.pointer p) (pickTo T nm n).retry ∧ Below w.heap.size w w' := by
  have hp := hpb.later hbb
  go_enter Try.func24, Try.ntmps24
  go_wp2_with fail
  refine (indexFunc_any a n c T nm w.heap.size _ hn (hp.later ?_) ?_ ?_).mono ?_
  · exact ((Below.refl _ _).alloc (Nat.le_refl _) _).alloc (by simp) _
  · simp; omega
  · simp [go_sem]
  rintro e w1 ⟨rfl, hb1⟩
  have hb0 : Below w.heap.size w ((w.alloc (.cells #[.string nm] 9)).alloc (.cells #[.string ByteArray.empty, .bool false, .bool false, .pointer none] 37)) := ((Below.refl _ _).alloc (Nat.le_refl _) _).alloc (by simp) _
  have hbel : Below w.heap.size w w1 := hb0.trans (hb1.mono (by simp; omega))
  have hg1 : w1.heap[w.heap.size + 1]? = some (.cells #[.string ByteArray.empty, .bool false, .bool false, .pointer none] 37 (0, 0)) := by
    rw [hb1.block _ (by simp)]
    rw [← show (w.alloc (.cells #[.string nm] 9)).heap.size = w.heap.size + 1 by simp]
    exact heap_alloc_new _ _
  have hm := (hbel.cell (p := ⟨g, 3, none⟩) hg).trans hc
  have hp1 := hp.later hbel
  obtain ⟨x0, e0⟩ := getC hg1 (k := 0) (by simp)
  obtain ⟨x1, e1⟩ := getC hg1 (k := 1) (by simp)
  obtain ⟨x2, e2⟩ := getC hg1 (k := 2) (by simp)
  obtain ⟨x3, e3⟩ := getC hg1 (k := 3) (by simp)
  have fz := frzC hg1
  clear hb0 hb1 hp1 hc
  cases hf : fstTo T nm n with
  | none =>
    have hpk : Hid (pickTo T nm n = zeroZs) := pickTo_none hf
    clear hf hg1
    simp only [ixOf]
    go_wp2
    have hq := four_set w1 (w.heap.size + 1) (.string ByteArray.empty) (.bool false) (.bool false) (.pointer none) _ _ _ _ e0 e1 e2 e3
    exact bodyPost_ret (v := zv (pickTo T nm n) (.pointer none)) (by rw [hpk.out]; exact results37 Try.results24 rfl hq.1 hq.2.1 hq.2.2.1 hq.2.2.2) rfl ⟨_, rfl, by rw [hpk.out]; rfl, below_set4 hbel (by omega) 0 (.string ByteArray.empty) (.bool false) (.bool false) (.pointer none)⟩
  | some i =>
    have hi := fstTo_lt hf
    have hpk : Hid (pickTo T nm n = T i) := pickTo_some hf
    clear hf hg1
    clear hp
    obtain ⟨b, off, rfl, hbl, hc⟩ := hpb (by omega)
    obtain ⟨q, d0', d1', d2', d3', hr0⟩ := hc i hi
    have hsb := hbb.size
    have hb : b < w.heap.size := by omega
    have d0 := (hbb.cell (p := ⟨b, off + i * 4, none⟩) hbl).trans d0'
    have d1 := (hbb.cell (p := ⟨b, off + i * 4 + 1, none⟩) hbl).trans d1'
    have d2 := (hbb.cell (p := ⟨b, off + i * 4 + 2, none⟩) hbl).trans d2'
    have d3 := (hbb.cell (p := ⟨b, off + i * 4 + 3, none⟩) hbl).trans d3'
    obtain ⟨p, rfl⟩ := hr0.ptr
    have c0 := (hbel.cell (p := ⟨b, off + i * 4, none⟩) hb).trans d0
    have c1 := (hbel.cell (p := ⟨b, off + i * 4 + 1, none⟩) hb).trans d1
    have c2 := (hbel.cell (p := ⟨b, off + i * 4 + 2, none⟩) hb).trans d2
    have c3 := (hbel.cell (p := ⟨b, off + i * 4 + 3, none⟩) hb).trans d3
    clear hc hpb d0 d1 d2 d3 d0' d1' d2' d3'
    simp only [ixOf]
    go_wp2
    have hq := four_set w1 (w.heap.size + 1) (.string (T i).name) (.bool (T i).ended) (.bool (T i).worked) (.pointer p) _ _ _ _ e0 e1 e2 e3
    exact bodyPost_ret (v := zv (pickTo T nm n) (.pointer p)) (by rw [hpk.out]; exact results37 Try.results24 rfl hq.1 hq.2.1 hq.2.2.1 hq.2.2.2) rfl ⟨_, rfl, by rw [hpk.out]; exact hr0, below_set4 hbel (by omega) 0 _ _ _ _⟩

set_option maxHeartbeats 400000 in
theorem ZZstate_any (g : Nat) (nm : ByteArray) (a : Option Addr) (n c : Nat) (T : Nat → Zs) (w : World) (hn : n ≤ 1048576) (hg : g < w.heap.size) (hc : w.cell? ⟨g, 3, none⟩ = some (.slice a n c)) (hp : StatesAt w a n T) :
    Calls Try.prog 15 #[.pointer (some ⟨g, 0, none⟩), .string nm] w fun e w' => ∃ p, e = .returned (zv (pickTo T nm n) (.pointer p)) ∧ RetryAt w (.pointer p) (pickTo T nm n).retry ∧ Below w.heap.size w w' := by
  go_enter Try.func15, Try.ntmps15
  go_wp2_with fail
  have hb0 : Below w.heap.size w (w.alloc (.cells #[.string ByteArray.empty, .bool false, .bool false, .pointer none] 37)) := (Below.refl _ _).alloc (Nat.le_refl _) _
  refine (state_any w g nm a n c T _ hn (by simp; omega) ((hb0.cell (p := ⟨g, 3, none⟩) hg).trans hc) hp hb0).mono ?_
  rintro e w1 ⟨p, rfl, hr, hb1⟩
  have hg1 : w1.heap[w.heap.size]? = some (.cells #[.string ByteArray.empty, .bool false, .bool false, .pointer none] 37 (0, 0)) := by
    rw [hb1.block _ (by simp)]
    exact heap_alloc_new _ _
  have hbel : Below w.heap.size w w1 := hb0.trans (hb1.mono (by simp))
  obtain ⟨x0, e0⟩ := getC hg1 (k := 0) (by simp)
  obtain ⟨x1, e1⟩ := getC hg1 (k := 1) (by simp)
  obtain ⟨x2, e2⟩ := getC hg1 (k := 2) (by simp)
  obtain ⟨x3, e3⟩ := getC hg1 (k := 3) (by simp)
  have fz := frzC hg1
  clear hb0 hb1 hc hp hg1
  go_wp2
  have hq := four_set w1 w.heap.size (.string (pickTo T nm n).name) (.bool (pickTo T nm n).ended) (.bool (pickTo T nm n).worked) (.pointer p) _ _ _ _ e0 e1 e2 e3
  exact bodyPost_ret (v := zv (pickTo T nm n) (.pointer p)) (results37 Try.results15 rfl hq.1 hq.2.1 hq.2.2.1 hq.2.2.2) rfl ⟨_, rfl, hr, below_set4 hbel (by omega) 0 _ _ _ _⟩

end Go.Proofs.Qxb6608989a
