/- The walk of the fourth law. -/
import Derived.Test.Qxb6608989aMw11
namespace Go.Proofs.Qxb6608989a
open Go.RowKit

set_option maxRecDepth 8000 in
set_option maxHeartbeats 2000000 in
theorem law6_walk (s1 s2 s3 : ByteArray) (a0 : Option Addr) (n cap : Nat) (T : Nat → Zs) (a2 : Option Addr) (m cap2 : Nat) (Lf : Nat → Nat) (p : Int) (zi : Zs) (pi : Option Addr) (nm : ByteArray) (w : World) (hn : n ≤ cap) (hcap : cap ≤ 9223372036854775807) (hp0 : StatesAt w a0 n T) (hnil : a0 = none → n = 0) (hm : m ≤ 9223372036854775807) (hp20 : EventsAt w a2 m Lf) (hnil2 : a2 = none → m = 0) (hri0 : RetryAt w (.pointer pi) zi.retry) :
    Calls Try.prog 6 #[.string s1, .string s2, .string s3, .slice a0 n cap, .slice a2 m cap2, .int .i64 p, zv zi (.pointer pi), .string nm] w fun e w' => e = .returned (.bool true) ∧ Below w.heap.size w w' := by
  go_enter Try.func6, Try.ntmps6
  go_upto_region 0 with fail
  go_cut [14, 16] (fun v v2 wc => v = .pointer (some ⟨w.heap.size, 0, none⟩) ∧ v2 = .bool false ∧ Below w.heap.size w wc ∧ GotAt wc (.pointer (some ⟨w.heap.size, 0, none⟩)) zi)
  case first =>
    go_wp2
    go_meet
    case rel => exact ⟨rfl, rfl, (Below.refl _ _).alloc (Nat.le_refl _) _, gotAt_new _ _ _ _ hri0⟩
  case rest =>
    obtain ⟨rfl, rfl, hb1, hins⟩ := hcut
    have hp := hp0.later hb1
    have hp2 := hp20.later hb1
    clear hp0 hp20 hri0
    obtain ⟨gi, qi, hgi, hgl, i0, i1, i2, i3, hri⟩ := hins
    obtain rfl : gi = w.heap.size := by simpa using hgi.symm
    clear hgi
    obtain ⟨wA, rfl⟩ : ∃ wA : World, wA = wc := ⟨_, rfl⟩
    go_wp2_with fail
    refine (zzBytes21_any s1 s2 s3 a0 n cap T a2 m cap2 Lf nm p zi (.pointer qi) wA (by omega) hp hm hp2 hri).mono ?_
    rintro e w1 ⟨⟨r, rfl, hLf⟩, hb2⟩
    have hbB := hb1.trans (hb2.mono hb1.size)
    cases r with
    | false =>
      go_wp2
      go_ret; exact ⟨rfl, hbB⟩
    | true =>
      have hL2 := hLf rfl
      have hins2 := (show GotAt wA (.pointer (some ⟨w.heap.size, 0, none⟩)) zi from ⟨_, qi, rfl, hgl, i0, i1, i2, i3, hri⟩).later hb2
      have hp3 := hp.later hb2
      have hp4 := hp2.later hb2
      clear hLf i0 i1 i2 i3 hri hp hp2 hb1 hb2
      obtain ⟨gi, qi, hgi, hgl, i0, i1, i2, i3, hri⟩ := hins2
      obtain rfl : gi = w.heap.size := by simpa using hgi.symm
      clear hgi
      go_wp2_with fail
      all_goals first | (go_ret; exact ⟨rfl, hbB⟩) | skip
      refine (stateSize_any zi (.pointer qi) w1 hri).mono ?_
      rintro e w2 ⟨⟨sz, rfl⟩, hb3⟩
      have hbC := hbB.trans (hb3.mono hbB.size)
      have hins3 := (show GotAt w1 (.pointer (some ⟨w.heap.size, 0, none⟩)) zi from ⟨_, qi, rfl, hgl, i0, i1, i2, i3, hri⟩).later hb3
      have hp5 := hp3.later hb3
      have hp6 := hp4.later hb3
      clear i0 i1 i2 i3 hri hp3 hp4 hb3 hbB
      go_wp2_with fail
      all_goals first | (go_ret; exact ⟨rfl, hbC⟩) | skip
      refine (machineFits_any s1 s2 s3 a0 n cap T a2 m cap2 Lf _ w2 (by omega) hp5 (by omega) hp6 hL2).mono ?_
      rintro e w3 ⟨⟨r, rfl⟩, hb4⟩
      have hbD := hbC.trans (hb4.mono hbC.size)
      have hins4 := hins3.later hb4
      have hp7 := hp5.later hb4
      have hp8 := hp6.later hb4
      clear hp5 hp6 hins3 hb4 hbC
      cases r with
      | false =>
        go_wp2
        go_ret; exact ⟨rfl, hbD⟩
      | true =>
        go_upto_region 12 with fail
        all_goals first | (go_ret; exact ⟨rfl, hbD⟩) | skip
        obtain ⟨p, rfl⟩ := Int.eq_ofNat_of_zero_le (show 0 ≤ p by omega)
        have n1 : n ≤ 65536 := by omega
        have m1 : m ≤ 65536 := by omega
        have p1 : p ≤ n := by omega
        have hmk := make_any (P := Try.prog) 31 46 _ 4 32 Try.underlying31 Try.info46 .i64 .i64 (n + 1) (by omega) (by omega)
        obtain ⟨C0, hC0⟩ : ∃ C0, C0 = madeCells (Value.agg #[.string ByteArray.empty, .bool false, .bool false, .pointer none]).cells ((n + 1) * 4) := ⟨_, rfl⟩
        have HC0 : Hid (C0.size = (n + 1) * 4) := by rw [hC0]; exact size_madeCells _ _
        rw [← hC0, show (((n + 1 : Nat)) : Int) = (n : Int) + 1 from by omega] at hmk
        clear hC0
        go_wp2
        clear hmk
        go_loopg [19] p (fun k i wr => ∃ j : Nat, ∃ C : Array Value, k + j = p ∧ i = .int .i64 j ∧ wr.heap[w3.heap.size]? = some (.cells C 46 (0, 0)) ∧ C.size = (n + 1) * 4 ∧ StatesIn C wr w3.heap.size T j ∧ Below w3.heap.size w3 wr)
        case atStart => exact ⟨0, C0, by omega, rfl, heap_alloc_new w3 _, HC0.out, fun i hi => by omega, (Below.refl _ _).alloc (Nat.le_refl _) _⟩
        case round =>
          obtain ⟨j, C, hk, rfl, hg, hCs, hin, hbel⟩ := hrel
          have hgs : w3.heap.size < wr.heap.size := (Array.getElem?_eq_some_iff.1 hg).1
          have HG : Hid (wr.heap[w3.heap.size]? = some (.cells C 46 (0, 0)) ∧ C.size = (n + 1) * 4) := ⟨hg, hCs⟩
          have fz := frzC hg
          obtain ⟨x0, e0⟩ := getC hg (k := j * 4) (by omega)
          obtain ⟨x1, e1⟩ := getC hg (k := j * 4 + 1) (by omega)
          obtain ⟨x2, e2⟩ := getC hg (k := j * 4 + 2) (by omega)
          obtain ⟨x3, e3⟩ := getC hg (k := j * 4 + 3) (by omega)
          clear hg hCs
          by_cases hlt : j < p
          · obtain ⟨b, off, rfl, hb, hc⟩ := hp7 (by omega)
            obtain ⟨q, c0, c1, c2, c3, hr⟩ := hc j (by omega)
            obtain ⟨pq, rfl⟩ := hr.ptr
            have d0 := (hbel.cell (p := ⟨b, off + j * 4, none⟩) hb).trans c0
            have d1 := (hbel.cell (p := ⟨b, off + j * 4 + 1, none⟩) hb).trans c1
            have d2 := (hbel.cell (p := ⟨b, off + j * 4 + 2, none⟩) hb).trans c2
            have d3 := (hbel.cell (p := ⟨b, off + j * 4 + 3, none⟩) hb).trans c3
            have hin1 := hin.put HG.out.2 (by omega) (hr.later hbel) (fun b o h => by have := hr.lt h; omega)
            have hbel1 := below_set4 hbel (Nat.le_refl _) (j * 4) (.string (T j).name) (.bool (T j).ended) (.bool (T j).worked) (.pointer pq)
            clear hc hp7 hp8 hins4 c0 c1 c2 c3 hr hin hbel
            go_wp2
            go_roundg (gk - 1)
            case measure => omega
            case rel => exact ⟨j + 1, _, by omega, by go_num, heap_set4 HG.out.1 _ _ _ _ _, (size_put4 _ _ _ _ _ _).trans HG.out.2, hin1, hbel1⟩
          · obtain rfl : p = j := by omega
            obtain ⟨gi, qi, hgi, hgl, i0, i1, i2, i3, hri⟩ := hins4
            obtain rfl : gi = w.heap.size := by simpa using hgi.symm
            have d0 := (hbel.cell (p := ⟨w.heap.size, 0, none⟩) hgl).trans i0
            have d1 := (hbel.cell (p := ⟨w.heap.size, 1, none⟩) hgl).trans i1
            have d2 := (hbel.cell (p := ⟨w.heap.size, 2, none⟩) hgl).trans i2
            have d3 := (hbel.cell (p := ⟨w.heap.size, 3, none⟩) hgl).trans i3
            have HI : Hid (GotAt w3 (.pointer (some ⟨w.heap.size, 0, none⟩)) zi) := ⟨_, qi, rfl, hgl, i0, i1, i2, i3, hri⟩
            have hin1 := (hin.congr (T' := insT T p zi) (fun i hi => by simp [insT, hi])).putz HG.out.2 (by omega) (z := zi) (by simp [insT]) (hri.later hbel) (fun b o h => by have := hri.lt h; omega)
            have hbel1 := below_set4 hbel (Nat.le_refl _) (p * 4) (.string zi.name) (.bool zi.ended) (.bool zi.worked) (.pointer qi)
            have HG1 : Hid ((set4 wr w3.heap.size (p * 4) (.string zi.name) (.bool zi.ended) (.bool zi.worked) (.pointer qi)).heap[w3.heap.size]? = some (.cells (put4 C (p * 4) (.string zi.name) (.bool zi.ended) (.bool zi.worked) (.pointer qi)) 46 (0, 0)) ∧ (put4 C (p * 4) (.string zi.name) (.bool zi.ended) (.bool zi.worked) (.pointer qi)).size = (n + 1) * 4) := ⟨heap_set4 HG.out.1 _ _ _ _ _, (size_put4 _ _ _ _ _ _).trans HG.out.2⟩
            clear hgi i0 i1 i2 i3 hri hin hbel HG
            go_wp2
            clear d0 d1 d2 d3 e0 e1 e2 e3 fz
            go_loopg [20] (n - p) (fun k i wx => ∃ j : Nat, ∃ C : Array Value, k + j = n ∧ p ≤ j ∧ i = .int .i64 j ∧ wx.heap[w3.heap.size]? = some (.cells C 46 (0, 0)) ∧ C.size = (n + 1) * 4 ∧ StatesIn C wx w3.heap.size (insT T p zi) (j + 1) ∧ Below w3.heap.size w3 wx)
            case atStart => exact ⟨p, _, by omega, Nat.le_refl _, rfl, HG1.out.1, HG1.out.2, hin1, hbel1⟩
            case round =>
              clear hin1 hbel1 HG1
              obtain ⟨j, C, hkj, hpj, rfl, hg, hCs, hin, hbel⟩ := hrel
              have hgs : w3.heap.size < wr.heap.size := (Array.getElem?_eq_some_iff.1 hg).1
              by_cases hlt : j < n
              · have HG : Hid (wr.heap[w3.heap.size]? = some (.cells C 46 (0, 0)) ∧ C.size = (n + 1) * 4) := ⟨hg, hCs⟩
                have fz := frzC hg
                obtain ⟨x0, e0⟩ := getC hg (k := (j + 1) * 4) (by omega)
                obtain ⟨x1, e1⟩ := getC hg (k := (j + 1) * 4 + 1) (by omega)
                obtain ⟨x2, e2⟩ := getC hg (k := (j + 1) * 4 + 2) (by omega)
                obtain ⟨x3, e3⟩ := getC hg (k := (j + 1) * 4 + 3) (by omega)
                obtain ⟨b, off, rfl, hb, hc⟩ := hp7 (by omega)
                obtain ⟨q, c0, c1, c2, c3, hr⟩ := hc j (by omega)
                obtain ⟨pq, rfl⟩ := hr.ptr
                have d0 := (hbel.cell (p := ⟨b, off + j * 4, none⟩) hb).trans c0
                have d1 := (hbel.cell (p := ⟨b, off + j * 4 + 1, none⟩) hb).trans c1
                have d2 := (hbel.cell (p := ⟨b, off + j * 4 + 2, none⟩) hb).trans c2
                have d3 := (hbel.cell (p := ⟨b, off + j * 4 + 3, none⟩) hb).trans c3
                have hin1 := hin.putz HG.out.2 (by omega) (z := T j) (insT_past hpj) (hr.later hbel) (fun b o h => by have := hr.lt h; omega)
                have hbel1 := below_set4 hbel (Nat.le_refl _) ((j + 1) * 4) (.string (T j).name) (.bool (T j).ended) (.bool (T j).worked) (.pointer pq)
                clear hc hp7 hp8 HI c0 c1 c2 c3 hr hin hbel hg hCs
                go_wp2
                go_roundg (gk - 1)
                case measure => omega
                case rel => exact ⟨j + 1, _, by omega, by omega, by go_num, heap_set4 HG.out.1 _ _ _ _ _, (size_put4 _ _ _ _ _ _).trans HG.out.2, hin1, hbel1⟩
              · obtain rfl : n = j := by omega
                have hst2 := hin.at_ hg
                have hst1 := hp7.later hbel
                have hev := hp8.later hbel
                have hin5 := HI.out.later hbel
                have hbE := hbD.trans (hbel.mono hbD.size)
                clear hin hg hCs hp7 hp8 HI hbel hbD
                obtain ⟨wE, rfl⟩ : ∃ wE : World, wE = wr := ⟨_, rfl⟩
                go_upto_region 22 with fail
                go_cut [21] (fun v wc => GotAt wc v (pickTo T nm n) ∧ Below wE.heap.size wE wc)
                case first =>
                  go_wp2_with fail
                  refine (toMachine_any s1 s2 s3 a0 n cap T a2 m cap2 Lf _ (by omega) hst1 hnil (by omega) hev hnil2 hL2).mono ?_
                  rintro e w4 ⟨g, a1, rfl, hg, hcell, hst, hb2⟩
                  go_wp2_with fail
                  refine (ZZstate_any g nm a1 n n T w4 (by omega) hg hcell hst).mono ?_
                  rintro e w5 ⟨p1, rfl, hr1, hb3⟩
                  clear hcell
                  have hr3 := hr1.later hb3
                  have hb4 := hb2.trans (hb3.mono hb2.size)
                  go_wp2
                  go_meet
                  case rel => exact ⟨gotAt_new _ _ _ _ hr3, hb4.alloc hb4.size _⟩
                case rest =>
                  obtain ⟨hr1, hbF⟩ := hcut
                  obtain ⟨wF, rfl⟩ : ∃ wF : World, wF = wc := ⟨_, rfl⟩
                  go_upto_region 23 with fail
                  go_cut [22] (fun v wc => GotAt wc v (pickTo (insT T p zi) nm (n + 1)) ∧ Below wF.heap.size wF wc)
                  case first =>
                    go_wp2_with fail
                    refine (toMachine_any s1 s2 s3 _ (n + 1) (n + 1) (insT T p zi) a2 m cap2 Lf _ (by omega) (hst2.later hbF) (fun h => by cases h) (by omega) (hev.later hbF) hnil2 hL2).mono ?_
                    rintro e w4 ⟨g, a1, rfl, hg, hcell, hst, hb2⟩
                    go_wp2_with fail
                    refine (ZZstate_any g nm a1 (n + 1) (n + 1) (insT T p zi) w4 (by omega) hg hcell hst).mono ?_
                    rintro e w5 ⟨p1, rfl, hr1, hb3⟩
                    clear hcell
                    have hr3 := hr1.later hb3
                    have hb4 := hb2.trans (hb3.mono hb2.size)
                    go_wp2
                    go_meet
                    case rel => exact ⟨gotAt_new _ _ _ _ hr3, hb4.alloc hb4.size _⟩
                  case rest =>
                    obtain ⟨hr2, hbG⟩ := hcut
                    have hbH := below_tri hbE hbF hbG
                    have hr1b := hr1.later hbG
                    have hst3 := (hst1.later hbF).later hbG
                    have hin6 := (hin5.later hbF).later hbG
                    clear hr1 hst1 hst2 hev hin5 hbE hbF hbG hL2 hnil hnil2
                    obtain ⟨wG, rfl⟩ : ∃ wG : World, wG = wc := ⟨_, rfl⟩
                    go_wp2_with fail
                    refine (firstNamed_any a0 n cap T nm wG (by omega) hst3).mono ?_
                    rintro e w4 ⟨rfl, rfl⟩
                    cases hf : fstTo T nm n with
                    | none =>
                      rw [pickTo_none hf] at hr1b
                      have HF : Hid (fstTo T nm n = none) := hf
                      clear hf hst3
                      simp only [ixOf]
                      obtain ⟨g1, q1, rfl, hg1, x0, x1, x2, x3, hrr1⟩ := hr1b
                      obtain rfl : q1 = none := by simpa [RetryAt, zeroZs] using hrr1
                      go_wp2_with fail
                      refine (isZero_any wG).mono ?_
                      rintro e w5 ⟨rfl, hb5⟩
                      have hr1c := (show GotAt wG (.pointer (some ⟨g1, 0, none⟩)) zeroZs from ⟨_, _, rfl, hg1, x0, x1, x2, x3, hrr1⟩).later hb5
                      have hr2c := hr2.later hb5
                      have hin7 := hin6.later hb5
                      clear x0 x1 x2 x3 hrr1 hr2 hin6
                      obtain ⟨gi, qi, hgi, hgl, i0, i1, i2, i3, hri⟩ := hin7
                      obtain rfl : gi = w.heap.size := by simpa using hgi.symm
                      clear hgi
                      by_cases ht : (zi.name.toList == nm.toList) = true
                      · rw [pick_ins_hit p1 ht (fun i h => by rw [HF.out] at h; cases h)] at hr2c
                        obtain ⟨g2, q2, rfl, hg2, y0, y1, y2, y3, hrr2⟩ := hr2c
                        go_wp2_with fail
                        refine (stateIs_any zi (.pointer q2) (.pointer qi) _ hrr2 hri).mono ?_
                        rintro e w7 ⟨rfl, hb7⟩
                        go_wp2
                        go_ret
                        exact ⟨rfl, below_tri hbH hb5 hb7⟩
                      · have ht' : (zi.name.toList == nm.toList) = false := by simpa using ht
                        rw [pick_ins_miss p1 (.inl ht'), pickTo_none HF.out] at hr2c
                        obtain ⟨g2, q2, rfl, hg2, y0, y1, y2, y3, hrr2⟩ := hr2c
                        obtain ⟨g1', q1, hv1, hg1', z0, z1, z2, z3, hrr1⟩ := hr1c
                        obtain rfl : g1 = g1' := by simpa using hv1
                        go_wp2_with fail
                        refine (statesEqual_any zeroZs (.pointer q2) (.pointer q1) _ hrr2 hrr1).mono ?_
                        rintro e w7 ⟨rfl, hb7⟩
                        go_wp2
                        go_ret
                        exact ⟨rfl, below_tri hbH hb5 hb7⟩
                    | some i =>
                      have hi := fstTo_lt hf
                      have HP : Hid (pickTo T nm n = T i) := pickTo_some hf
                      rw [pickTo_some hf] at hr1b
                      have HF : Hid (fstTo T nm n = some i) := hf
                      clear hf
                      simp only [ixOf]
                      obtain ⟨g1, q1, rfl, hg1, x0, x1, x2, x3, hrr1⟩ := hr1b
                      obtain ⟨b, off, rfl, hb, hc⟩ := hst3 (by omega)
                      obtain ⟨q, y0, y1, y2, y3, hrq⟩ := hc i hi
                      obtain ⟨pq, rfl⟩ := hrq.ptr
                      clear hc hst3
                      have i0 : (0 : Int) ≤ (i : Int) := by omega
                      have i1 : (i : Int) < (n : Int) := by omega
                      go_wp2_with fail
                      have hrd := hrr1.later (Below.refl wG.heap.size wG).drew
                      have hrqd := hrq.later (Below.refl wG.heap.size wG).drew
                      go_cut [135] (fun v wc => v = .bool false ∧ Below wG.heap.size wG wc)
                      case first =>
                        go_region_with (go_at_call 19; refine (stateIs_any (T i) (.pointer q1) (.pointer pq) _ hrd hrqd).mono ?_; rintro e w5 ⟨rfl, hb5⟩)
                        all_goals (go_wp2; go_meet; exact ⟨rfl, (Below.refl wG.heap.size wG).drew.trans hb5⟩)
                      case rest =>
                        obtain ⟨rfl, hb5⟩ := hcut
                        have hr1c := (show GotAt wG (.pointer (some ⟨g1, 0, none⟩)) (T i) from ⟨g1, q1, rfl, hg1, x0, x1, x2, x3, hrr1⟩).later hb5
                        have hr2c := hr2.later hb5
                        have hin7 := hin6.later hb5
                        clear x0 x1 x2 x3 y0 y1 y2 y3 hrq hrd hrqd hrr1 hr2 hin6
                        obtain ⟨gi, qi, hgi, hgl, i0, i1, i2, i3, hri⟩ := hin7
                        obtain rfl : gi = w.heap.size := by simpa using hgi.symm
                        clear hgi
                        by_cases ht : (zi.name.toList == nm.toList) = true ∧ p ≤ i
                        · obtain ⟨ht, hpi⟩ := ht
                          rw [pick_ins_hit p1 ht (fun k h => by rw [HF.out] at h; simp at h; omega)] at hr2c
                          obtain ⟨g2, q2, rfl, hg2, y0, y1, y2, y3, hrr2⟩ := hr2c
                          go_wp2_with fail
                          refine (stateIs_any zi (.pointer q2) (.pointer qi) _ hrr2 hri).mono ?_
                          rintro e w7 ⟨rfl, hb7⟩
                          go_wp2
                          go_ret
                          exact ⟨rfl, below_tri hbH hb5 hb7⟩
                        · have ht' : (zi.name.toList == nm.toList) = false ∨ ∃ k, fstTo T nm n = some k ∧ k < p := by
                            by_cases h1 : (zi.name.toList == nm.toList) = true
                            · exact .inr ⟨i, HF.out, by have : ¬ p ≤ i := fun h => ht ⟨h1, h⟩; omega⟩
                            · exact .inl (by simpa using h1)
                          rw [pick_ins_miss p1 ht', HP.out] at hr2c
                          obtain ⟨g2, q2, rfl, hg2, y0, y1, y2, y3, hrr2⟩ := hr2c
                          obtain ⟨g1', q1, hv1, hg1', z0, z1, z2, z3, hrr1⟩ := hr1c
                          obtain rfl : g1 = g1' := by simpa using hv1
                          clear ht'
                          by_cases h1 : (zi.name.toList == nm.toList) = true
                          · have hpi : i < p := by have : ¬ p ≤ i := fun h => ht ⟨h1, h⟩; omega
                            clear ht
                            go_wp2_with fail
                            refine (statesEqual_any (T i) (.pointer q2) (.pointer q1) _ hrr2 hrr1).mono ?_
                            rintro e w7 ⟨rfl, hb7⟩
                            go_wp2
                            go_ret
                            exact ⟨rfl, below_tri hbH hb5 hb7⟩
                          · have h1' : (zi.name.toList == nm.toList) = false := by simpa using h1
                            clear ht h1
                            go_wp2_with fail
                            refine (statesEqual_any (T i) (.pointer q2) (.pointer q1) _ hrr2 hrr1).mono ?_
                            rintro e w7 ⟨rfl, hb7⟩
                            go_wp2
                            go_ret
                            exact ⟨rfl, below_tri hbH hb5 hb7⟩
end Go.Proofs.Qxb6608989a
