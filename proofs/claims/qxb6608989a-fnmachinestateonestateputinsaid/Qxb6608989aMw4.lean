/- The walks of toEvents and toMachine. -/
import Derived.Test.Qxb6608989aMw3
import Derived.RegionTactic
namespace Go.Proofs.Qxb6608989a
open Go.RowKit

theorem Try.info71 : (Try.prog.info? 71).map (fun i => (i.zero, i.size, i.bytes)) = some (some (.agg #[.string ByteArray.empty, .slice none 0 0, .string ByteArray.empty]), 3, 56) := by kernel_rfl

theorem getC {w : World} {g : Nat} {C : Array Value} {t : TypeId} (h : w.heap[g]? = some (.cells C t (0, 0))) {k : Nat} (hk : k < C.size) : ∃ x, w.cell? ⟨g, k, none⟩ = some x := ⟨C[k], by simp [World.cell?, h, hk]⟩
theorem frzC {w : World} {g : Nat} {C : Array Value} {t : TypeId} (h : w.heap[g]? = some (.cells C t (0, 0))) (k : Nat) : w.frozen? ⟨g, k, none⟩ = false := by simp [World.frozen?, h]

def RetSlice (e : Ending) : Prop := ∃ a l c, e = .returned (.slice a l c)
theorem RetSlice.mk (a : Option Addr) (l c : Nat) : RetSlice (.returned (.slice a l c)) := ⟨a, l, c, rfl⟩

set_option maxHeartbeats 1000000 in
theorem toEvents_any (a0 : Option Addr) (n cap : Nat) (Lf : Nat → Nat) (w : World) (hn : n ≤ 1048576) (hp : EventsAt w a0 n Lf) (hnil : a0 = none → n = 0) (hLf : ∀ i, i < n → Lf i ≤ 1048576) :
    Calls Try.prog 26 #[.slice a0 n cap] w fun e w' => RetSlice e ∧ Below w.heap.size w w' := by
  have hq := fun w => Lib.run_eql_slice_nil (P := Try.prog) w 32 57 a0 n cap 0 0 Try.underlying32
  have hmk := make_any (P := Try.prog) 61 71 _ 3 56 Try.underlying61 Try.info71 .i64 .i64 n (by omega) (by omega)
  obtain ⟨C0, hC0⟩ : ∃ C0, C0 = madeCells (Value.agg #[.string ByteArray.empty, .slice none 0 0, .string ByteArray.empty]).cells (n * 3) := ⟨_, rfl⟩
  have HC0 : Hid (C0.size = n * 3) := by rw [hC0]; exact size_madeCells _ _
  rw [← hC0] at hmk
  clear hC0
  cases a0 with
  | none =>
    obtain rfl : n = 0 := hnil rfl
    clear hmk
    go_enter Try.func26, Try.ntmps26
    go_wp2
    go_ret
    exact ⟨RetSlice.mk _ _ _, Below.refl _ _⟩
  | some a =>
    clear hnil
    go_enter Try.func26, Try.ntmps26
    go_wp2
    clear hmk hq
    go_loopg [4, 5, 6] n (fun k i s5 s6 wr => ∃ j : Nat, ∃ C : Array Value, k + j = n ∧ i = .int .i64 j ∧ wr.heap[w.heap.size]? = some (.cells C 71 (0, 0)) ∧ C.size = n * 3 ∧ Below w.heap.size w wr)
    case atStart => exact ⟨0, C0, by omega, rfl, heap_alloc_new w _, HC0.out, (Below.refl _ _).alloc (Nat.le_refl _) _⟩
    case round =>
      obtain ⟨j, C, hk, rfl, hg, hCs, hbel⟩ := hrel
      have hgs : w.heap.size < wr.heap.size := (Array.getElem?_eq_some_iff.1 hg).1
      have HG : Hid (wr.heap[w.heap.size]? = some (.cells C 71 (0, 0)) ∧ C.size = n * 3) := ⟨hg, hCs⟩
      clear hg hCs
      by_cases hlt : j < n
      · have hp2 := hp.later hbel
        obtain ⟨b, off, hab, hb, hc⟩ := hp (by omega)
        obtain rfl : a = ⟨b, off, none⟩ := by simpa using hab
        have hl := hLf j hlt
        obtain ⟨s, t, aF, cF, F, c0, c1, c2, hr⟩ := hc j hlt
        have d0 := (hbel.cell (p := ⟨b, off + j * 3, none⟩) hb).trans c0
        have d1 := (hbel.cell (p := ⟨b, off + j * 3 + 1, none⟩) hb).trans c1
        have d2 := (hbel.cell (p := ⟨b, off + j * 3 + 2, none⟩) hb).trans c2
        have hr2 := hr.later hbel
        have hne := fun w => run_neq_slice_nil_any (P := Try.prog) w 25 9 aF (Lf j) cF 0 0 Try.underlying25
        clear hc hp2 hp hab hLf c0 c1 c2 hr
        go_upto_if 23 with fail
        obtain ⟨wo, rfl⟩ : ∃ wo : World, wo = wr := ⟨_, rfl⟩
        go_cut [5] (fun v w' => ∃ a l c, v = .slice a l c ∧ Below wo.heap.size wo w')
        case first =>
          cases aF with
          | none =>
            clear hne
            go_wp2
            go_meet
            case rel => exact ⟨_, _, _, rfl, Below.refl _ _⟩
          | some aF =>
            clear hne
            have hmk := make_any (P := Try.prog) 25 9 _ 1 16 Try.underlying25 Try.info9 .i64 .i64 (Lf j) (by omega) (by omega)
            obtain ⟨D0, hD0⟩ : ∃ D0, D0 = madeCells (Value.string ByteArray.empty).cells (Lf j * 1) := ⟨_, rfl⟩
            have HD0 : Hid (D0.size = Lf j) := by rw [hD0]; exact (size_madeCells _ _).trans (Nat.mul_one _)
            rw [← hD0] at hmk
            clear hD0
            go_wp2
            clear hmk
            go_loopg [6] (Lf j) (fun k i w' => ∃ q : Nat, ∃ D : Array Value, k + q = Lf j ∧ i = .int .i64 q ∧ w'.heap[wo.heap.size]? = some (.cells D 9 (0, 0)) ∧ D.size = Lf j ∧ Below wo.heap.size wo w')
            case atStart => exact ⟨0, D0, by omega, rfl, heap_alloc_new wo _, HD0.out, (Below.refl _ _).alloc (Nat.le_refl _) _⟩
            case round =>
              obtain ⟨q, D, hkq, rfl, hgD, hDs, hbD⟩ := hrel
              have HD : Hid (wr.heap[wo.heap.size]? = some (.cells D 9 (0, 0)) ∧ D.size = Lf j) := ⟨hgD, hDs⟩
              clear hgD hDs
              by_cases hq : q < Lf j
              · obtain ⟨bF, oF, haF, hbF, hcF⟩ := hr2 (by omega)
                obtain rfl : aF = ⟨bF, oF, none⟩ := by simpa using haF
                have f1 := (hbD.cell (p := ⟨b, off + j * 3 + 1, none⟩) (by show b < wo.heap.size; omega)).trans d1
                have f2 := (hbD.cell (p := ⟨bF, oF + q, none⟩) hbF).trans (hcF q hq)
                obtain ⟨x, f3⟩ := getC HD.out.1 (k := q) (by rw [HD.out.2]; exact hq)
                have f4 := frzC HD.out.1 q
                clear hcF haF hr2 d0 d1 d2
                go_wp2
                go_roundg (gk - 1)
                case measure => omega
                case rel => exact ⟨q + 1, _, by omega, by go_num, heap_setCell_same _ _ _ _ _ _ HD.out.1, by simpa using HD.out.2, hbD.setCell (p := ⟨wo.heap.size, q, none⟩) (Nat.le_refl _) _⟩
              · go_wp2
                go_meet
                case rel => exact ⟨_, _, _, rfl, hbD⟩
        case rest =>
          obtain ⟨a', l', c', rfl, hb3⟩ := hcut
          have hg1 : wc.heap[w.heap.size]? = some (.cells C 71 (0, 0)) := (hb3.block _ hgs).trans HG.out.1
          have hcs := HG.out.2
          have f0 := (hb3.cell (p := ⟨b, off + j * 3, none⟩) (by show b < wo.heap.size; omega)).trans d0
          have f2 := (hb3.cell (p := ⟨b, off + j * 3 + 2, none⟩) (by show b < wo.heap.size; omega)).trans d2
          obtain ⟨x0, e0⟩ := getC hg1 (k := j * 3) (by omega)
          obtain ⟨x1, e1⟩ := getC hg1 (k := j * 3 + 1) (by omega)
          obtain ⟨x2, e2⟩ := getC hg1 (k := j * 3 + 2) (by omega)
          have fz := frzC hg1
          have hbel1 := hbel.trans (hb3.mono (by omega))
          have HG1 : Hid (wc.heap[w.heap.size]? = some (.cells C 71 (0, 0)) ∧ C.size = n * 3) := ⟨hg1, hcs⟩
          clear hg1 hcs hr2 d0 d1 d2 HG hbel hb3 hne
          go_wp2
          go_region
          go_wp2
          go_roundg (gk - 1)
          case measure => omega
          case rel => exact ⟨j + 1, _, by omega, by go_num, heap_setCell_same _ _ _ _ _ _ (heap_setCell_same _ _ _ _ _ _ (heap_setCell_same _ _ _ _ _ _ HG1.out.1)), by simpa using HG1.out.2, (((hbel1.setCell (p := ⟨w.heap.size, j * 3, none⟩) (Nat.le_refl _) _).setCell (p := ⟨w.heap.size, j * 3 + 1, none⟩) (Nat.le_refl _) _).setCell (p := ⟨w.heap.size, j * 3 + 2, none⟩) (Nat.le_refl _) _).drew⟩
      · obtain rfl : j = n := by omega
        go_wp2
        go_ret
        exact ⟨RetSlice.mk _ _ _, hbel⟩

set_option maxHeartbeats 400000 in
theorem toMachine_any (s1 s2 s3 : ByteArray) (a0 : Option Addr) (n cap : Nat) (T : Nat → Zs) (a2 : Option Addr) (m cap2 : Nat) (Lf : Nat → Nat) (w : World) (hn : n ≤ 1048576) (hp : StatesAt w a0 n T) (hnil : a0 = none → n = 0)
    (hm : m ≤ 1048576) (hp2 : EventsAt w a2 m Lf) (hnil2 : a2 = none → m = 0) (hLf : ∀ i, i < m → Lf i ≤ 1048576) :
    Calls Try.prog 16 #[.string s1, .string s2, .string s3, .slice a0 n cap, .slice a2 m cap2] w fun e w' => ∃ g a1, e = .returned (.pointer (some ⟨g, 0, none⟩)) ∧ g < w'.heap.size ∧ w'.cell? ⟨g, 3, none⟩ = some (.slice a1 n n) ∧ StatesAt w' a1 n T ∧ Below w.heap.size w w' := by
  go_enter Try.func16, Try.ntmps16
  go_wp2_with fail
  refine (toStates_any _ _ _ T _ hn hp hnil).mono ?_
  rintro e w1 ⟨a1, rfl, hs1, hb1⟩
  go_wp2_with fail
  refine (toEvents_any _ _ _ Lf _ hm (hp2.later hb1) hnil2 hLf).mono ?_
  rintro e w2 ⟨⟨a, l, c, rfl⟩, hb2⟩
  go_wp2
  go_ret
  have s1 := hb1.size
  have s2 := hb2.size
  have hs2 := hs1.later hb2
  have hb := hb1.trans (hb2.mono s1)
  refine ⟨_, _, rfl, by simp, by simp, hs2.later ((Below.refl _ _).alloc (Nat.le_refl _) _), hb.alloc (by omega) _⟩

end Go.Proofs.Qxb6608989a
