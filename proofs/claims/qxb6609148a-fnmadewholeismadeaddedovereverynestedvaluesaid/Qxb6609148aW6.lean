/- The walk of the law. -/
import Derived.Test.Qxb6609148aW5
import Derived.Deep.RegionHeld3
namespace Go.Proofs.Qxb6609148a
open Go.RowKit

theorem Try.info9 : (Try.prog.info? 9).map (fun i => (i.zero, i.size, i.bytes)) = some (some (.string ByteArray.empty), 1, 16) := by kernel_rfl

theorem bytes_exists (a : Nat) : ∃ c, Bytes a c := by
  have step : ∀ n, a < 256 ^ n → ∃ c, Bytes a c := by
    intro n
    induction n with
    | zero => intro h; exact ⟨0, fun _ => rfl, fun h0 => by simp at h; omega, h⟩
    | succ n ih =>
      intro h
      by_cases h2 : a < 256 ^ n
      · exact ih h2
      · have : 0 < 256 ^ n := Nat.pow_pos (by omega)
        exact ⟨n + 1, fun h0 => by omega, fun _ => ⟨by omega, by simp; omega⟩, h⟩
  exact step a (Nat.lt_pow_self (by omega))

def strCells (F : Nat → ByteArray) (n : Nat) : List Value := (List.range n).map fun i => .string (F i)
theorem strCells_length (F : Nat → ByteArray) (n : Nat) : (strCells F n).length = n * 1 := by simp [strCells]
theorem strCells_one (F : Nat → ByteArray) (n : Nat) : ∀ v ∈ strCells F n, v.oneCell' = true := by
  intro v hv
  obtain ⟨i, _, rfl⟩ := List.mem_map.1 hv
  rfl
theorem strCells_src {w : World} {a0 : Option Addr} {n : Nat} {F : Nat → ByteArray} (hp : StrsAt w a0 n F) :
    0 < n → ∃ ad, a0 = some ad ∧ ∀ j v, (strCells F n)[j]? = some v → w.cell? (ad.add j) = some v ∧ ad.block < w.heap.size := by
  intro h
  obtain ⟨b, off, rfl, hb, hc⟩ := hp h
  refine ⟨_, rfl, fun j v hj => ⟨?_, hb⟩⟩
  have hjl := (List.getElem?_eq_some_iff.1 hj).1
  rw [strCells_length] at hjl
  have hv : v = .string (F j) := by
    have := hj
    simp [strCells, show j < n by omega] at this
    exact this.symm
  subst hv
  rw [Addr.add_lit]
  exact hc j (by omega)
theorem strsAt_copied (w : World) (n : Nat) (F : Nat → ByteArray) (t : TypeId) : StrsAt ((w.alloc (.cells (strCells F n).toArray t)).drewN 0) (some ⟨w.heap.size, 0, none⟩) n F := by
  intro h
  refine ⟨_, _, rfl, by simp, fun i hi => ?_⟩
  have e0 : (strCells F n)[i]? = some (.string (F i)) := by simp [strCells, hi]
  simpa using e0

/-- A local variable that holds a list of the strings F. -/
def InnerAt (w : World) (v : Value) (a : Option Addr) (n : Nat) (i x : Int) (F : Nat → ByteArray) : Prop :=
  ∃ g, v = .pointer (some ⟨g, 0, none⟩) ∧ g < w.heap.size ∧ w.cell? ⟨g, 0, none⟩ = some (.slice a n n) ∧ w.cell? ⟨g, 1, none⟩ = some (.int .i64 i) ∧ w.cell? ⟨g, 2, none⟩ = some (.int .i64 x) ∧ ValsAt w a n (strV F)
theorem InnerAt.later {w w' : World} {v : Value} {a : Option Addr} {n : Nat} {i x : Int} {F : Nat → ByteArray} (h : InnerAt w v a n i x F) (hb : Below w.heap.size w w') : InnerAt w' v a n i x F := by
  obtain ⟨g, rfl, hg, c0, c1, c2, hv⟩ := h
  exact ⟨g, rfl, Nat.lt_of_lt_of_le hg hb.size, (hb.cell (p := ⟨g, 0, none⟩) hg).trans c0, (hb.cell (p := ⟨g, 1, none⟩) hg).trans c1, (hb.cell (p := ⟨g, 2, none⟩) hg).trans c2, hv.later hb⟩

set_option maxRecDepth 8000 in
set_option maxHeartbeats 2000000 in
theorem law_walk (a0 : Option Addr) (n cap : Nat) (F : Nat → ByteArray) (x : Int) (w : World) (hn : n ≤ cap) (hcap : cap ≤ 9223372036854775807) (hp : StrsAt w a0 n F) (hnil : a0 = none → n = 0) (hx0 : -9223372036854775808 ≤ x) (hx1 : x ≤ 9223372036854775807) :
    Calls Try.prog 3 #[.slice a0 n cap, .int .i64 x] w fun e w' => e = .returned (.bool true) ∧ Below w.heap.size w w' := by
  have hne := fun w => run_neq_slice_nil_any (P := Try.prog) w 22 9 a0 n cap 0 0 Try.underlying22
  go_enter Try.func3, Try.ntmps3
  go_wp2_with fail
  refine (zzBytes_any a0 n cap F x w (by omega) hp).mono ?_
  rintro e w' ⟨⟨r, rfl, hG⟩, rfl⟩
  cases r with
  | false =>
    go_wp2
    go_ret; exact ⟨rfl, Below.refl _ _⟩
  | true =>
    have hF := hG rfl
    clear hG
    go_wp2_with fail
    refine (stringsOver_any a0 n cap F w (by omega) hF hp).mono ?_
    rintro e w' ⟨⟨r, rfl, hO⟩, rfl⟩
    cases r with
    | true =>
      go_wp2
      go_ret; exact ⟨rfl, Below.refl _ _⟩
    | false =>
      obtain ⟨hn1, hS1⟩ := hO rfl
      have hS : sumTo F n ≤ 1048576 := by omega
      clear hO hS1
      go_wp2_with fail
      refine (allValid_any a0 n cap F w (by omega) hF hp).mono ?_
      rintro e w' ⟨⟨r, rfl⟩, rfl⟩
      cases r with
      | false =>
        go_wp2
        go_ret; exact ⟨rfl, Below.refl _ _⟩
      | true =>
        go_upto_if 24 with fail
        go_cut [0] (fun v wr => ∃ a1 cap1, v = .slice a1 n cap1 ∧ StrsAt wr a1 n F ∧ Below w.heap.size w wr)
        case first =>
          cases a0 with
          | none =>
            clear hnil
            go_wp2
            go_meet
            case rel => exact ⟨_, _, rfl, hp, Below.refl _ _⟩
          | some a =>
            clear hnil hne
            have hmk := make_any (P := Try.prog) 22 9 _ 1 16 Try.underlying22 Try.info9 .i64 .i64 n (by omega) (by omega)
            obtain ⟨C0, hC0⟩ : ∃ C0, C0 = madeCells (Value.string ByteArray.empty).cells (n * 1) := ⟨_, rfl⟩
            have HC0 : Hid (C0.size = n * 1) := by rw [hC0]; exact size_madeCells _ _
            rw [← hC0] at hmk
            clear hC0
            go_wp2_with (refine wpList_copy_new (.tmp 28) (.tmp 29) 22 22 rfl rfl 9 1 Try.underlying22 (by kernel_rfl) w C0 9 0 n rfl _ _ rfl rfl (strCells F n) (strCells_length _ _) HC0.out (strCells_src hp) (strCells_one _ _) ?_)
            go_meet
            case rel => exact ⟨_, _, rfl, strsAt_copied _ _ _ _, (Below.refl _ _).alloc (Nat.le_refl _) _⟩
        case rest =>
          obtain ⟨a1, cap1, rfl, hp1, hb1⟩ := hcut
          clear hne hp hnil
          obtain ⟨wA, rfl⟩ : ∃ wA : World, wA = wc := ⟨_, rfl⟩
          go_upto_region 11 with fail
          go_cut [6] (fun v wc => ∃ a i y, InnerAt wc v a n i y F ∧ Below wA.heap.size wA wc)
          case first =>
            go_wp2_with fail
            refine (stringList_any a1 n cap1 F wA (by omega) hp1).mono ?_
            rintro e w2 ⟨⟨a, i, y, rfl, hv⟩, hb2⟩
            go_wp2
            go_meet
            case rel => exact ⟨a, i, y, ⟨w2.heap.size, rfl, by simp, by simp, by simp, by simp, hv.later ((Below.refl _ _).alloc (Nat.le_refl _) _)⟩, hb2.alloc hb2.size _⟩
          case rest =>
            obtain ⟨a, i, y, hin, hb2⟩ := hcut
            have hp2 := hp1.later hb2
            have hbB := hb1.trans (hb2.mono hb1.size)
            clear hp1 hb1 hb2
            obtain ⟨wB, rfl⟩ : ∃ wB : World, wB = wc := ⟨_, rfl⟩
            obtain ⟨gI, rfl, hgI, c0, c1, c2, hvI⟩ := hin
            go_wp2_with fail
            refine (made_list a n n i y wB (by omega)).mono ?_
            rintro e wC ⟨rfl, hb3⟩
            have hin3 := (show InnerAt wB (.pointer (some ⟨gI, 0, none⟩)) a n i y F from ⟨gI, rfl, hgI, c0, c1, c2, hvI⟩).later hb3
            have hp3 := hp2.later hb3
            have hbC := hbB.trans (hb3.mono hbB.size)
            clear c0 c1 c2 hvI hgI hp2 hb3 hbB
            go_wp2
            go_loopg [7, 8, 9] n (fun k t u v wr => ∃ j A B : Nat, k + j = n ∧ v = .int .i64 j ∧ t = .int .i64 A ∧ Hid (A = 1 + 2 * n + sumTo F j) ∧ u = .int .i64 B ∧ Hid (B = 1 + n + j + sumTo F j) ∧ wr = wC)
            case atStart => exact ⟨0, 1 + 2 * n, 1 + n, by omega, rfl, by go_num, rfl, by go_num, rfl, rfl⟩
            case round =>
              obtain ⟨j, A, B, hk, rfl, rfl, hA, rfl, hB, rfl⟩ := hrel
              by_cases hlt : j < n
              · obtain ⟨b, off, rfl, hb, hc⟩ := hp3 (by omega)
                have c0 := hc j hlt
                have hs := hF j hlt
                have h1 := sumTo_mono F (show j + 1 ≤ n by omega)
                have h2 := sumTo_mono F (show j ≤ n by omega)
                rw [sumTo] at h1
                have hA1 : A ≤ 2097152 := by rw [hA.out]; omega
                have hB1 : B ≤ 2097152 := by rw [hB.out]; omega
                have HA : Hid (A + (F j).size = 1 + 2 * n + sumTo F (j + 1)) := by show _ = _; rw [hA.out, sumTo]; omega
                have HB : Hid (B + (1 + (F j).size) = 1 + n + (j + 1) + sumTo F (j + 1)) := by show _ = _; rw [hB.out, sumTo]; omega
                clear hc hp3 hF hin3
                go_wp2_with fail
                refine (made_str (F j) _ hs).mono ?_
                rintro e w4 ⟨rfl, rfl⟩
                go_wp2
                go_roundg (gk - 1)
                case measure => omega
                case rel => exact ⟨j + 1, A + (F j).size, B + (1 + (F j).size), by omega, by go_num, by go_num, HA, by go_num, HB, rfl⟩
              · obtain rfl : n = j := by omega
                obtain ⟨S, hSS⟩ : ∃ S, S = 1 + 2 * n + sumTo F n := ⟨_, rfl⟩
                have hAS : A = S := by rw [hA.out, hSS]
                have hBS : B = S := by rw [hB.out, hSS]; omega
                subst hAS
                subst hBS
                have HS : Hid (B = 1 + 2 * n + sumTo F n) := hSS
                have hS2 : B ≤ 2097152 := by omega
                clear hA hB hSS
                obtain ⟨gI', e, hgI, c0, c1, c2, hvI⟩ := hin3
                obtain rfl : gI = gI' := by simpa using e
                clear e hp3
                go_wp2_with fail
                refine (madeWhole_strs a n n i y F _ hn1 hF hS hvI).mono ?_
                rintro e wD ⟨rfl, hb4⟩
                rw [← HS.out]
                have hin4 := (show InnerAt wr (.pointer (some ⟨gI, 0, none⟩)) a n i y F from ⟨gI, rfl, hgI, c0, c1, c2, hvI⟩).later hb4
                have hbD := hbC.trans (hb4.mono hbC.size)
                clear c0 c1 c2 hvI hgI hb4 hbC
                go_upto_region 22 with fail
                go_cut [11] (fun v wc => ∃ gX p, v = .pointer (some ⟨gX, 0, none⟩) ∧ gX < wc.heap.size ∧ wc.cell? ⟨gX, 0, none⟩ = some (.pointer p) ∧ IntAt wc p x.natAbs ∧ Below wD.heap.size wD wc)
                case first =>
                  go_wp2_with fail
                  refine (ZZinteger_any x wD hx0 hx1).mono ?_
                  rintro e w5 ⟨⟨p, rfl, hi5⟩, hb5⟩
                  go_wp2
                  go_meet
                  case rel => exact ⟨w5.heap.size, p, rfl, by simp, by simp, hi5.later ((Below.refl _ _).alloc (Nat.le_refl _) _), hb5.alloc hb5.size _⟩
                case rest =>
                  obtain ⟨gX, p, rfl, hgX, cX, hiX, hb5⟩ := hcut
                  obtain ⟨wE, rfl⟩ : ∃ wE : World, wE = wc := ⟨_, rfl⟩
                  have hin5 := hin4.later hb5
                  have hbE := hbD.trans (hb5.mono hbD.size)
                  clear hin4 hb5 hbD
                  have hab : x.natAbs < 18446744073709551616 := by omega
                  obtain ⟨ab, hab2⟩ : ∃ ab, ab = x.natAbs := ⟨_, rfl⟩
                  rw [← hab2] at hab hiX
                  have HAB : Hid (ab = x.natAbs) := hab2
                  clear hab2
                  obtain ⟨gI', e, hgI, c0, c1, c2, hvI⟩ := hin5
                  obtain rfl : gI = gI' := by simpa using e
                  clear e
                  go_upto_region 23 with fail
                  go_cut [12] (fun v wc => ∃ gO g2 i2 x2, v = .pointer (some ⟨gO, 0, none⟩) ∧ gO < wc.heap.size ∧ wc.cell? ⟨gO, 0, none⟩ = some (.slice (some ⟨g2, 0, none⟩) 2 2) ∧ wc.cell? ⟨gO, 1, none⟩ = some (.int .i64 i2) ∧ wc.cell? ⟨gO, 2, none⟩ = some (.int .i64 x2) ∧
                    g2 < wc.heap.size ∧ wc.cell? ⟨g2, 0, none⟩ = some (.iface 30 (.agg #[.slice a n n, .int .i64 i, .int .i64 y])) ∧ wc.cell? ⟨g2, 1, none⟩ = some (.iface 36 (.agg #[.pointer p])) ∧ Below wE.heap.size wE wc)
                  case first =>
                    go_wp2_with fail
                    refine (ZZpair_any 30 36 _ _ wE (.inr (.inl ⟨a, n, n, i, y, rfl⟩)) (.inr (.inr ⟨p, ab, rfl, hab, hiX⟩))).mono ?_
                    rintro e w6 ⟨⟨g2, i2, x2, rfl, hg2, k0, k1⟩, hb6⟩
                    have hb7 : Below w6.heap.size w6 (w6.alloc (.cells #[.slice (some ⟨g2, 0, none⟩) 2 2, .int .i64 i2, .int .i64 x2] 30)) := (Below.refl _ _).alloc (Nat.le_refl _) _
                    have k0' := (hb7.cell (p := ⟨g2, 0, none⟩) hg2).trans k0
                    have k1' := (hb7.cell (p := ⟨g2, 1, none⟩) hg2).trans k1
                    clear c0 c1 c2 cX k0 k1
                    go_wp2
                    go_meet
                    case rel => exact ⟨w6.heap.size, g2, i2, x2, rfl, by simp, by simp, by simp, by simp, by simp; omega, k0', k1', hb6.alloc hb6.size _⟩
                  case rest =>
                    obtain ⟨gO, g2, i2, x2, rfl, hgO, o0, o1, o2, hg2, k0, k1, hb6⟩ := hcut
                    obtain ⟨wF, rfl⟩ : ∃ wF : World, wF = wc := ⟨_, rfl⟩
                    have hvF := hvI.later hb6
                    have hiF := hiX.later hb6
                    have cXF := (hb6.cell (p := ⟨gX, 0, none⟩) hgX).trans cX
                    have hgXF : gX < wF.heap.size := Nat.lt_of_lt_of_le hgX hb6.size
                    have hbF := hbE.trans (hb6.mono hbE.size)
                    clear hvI hiX cX hgX hb6 hbE c0 c1 c2 hgI
                    obtain ⟨cc, hcc⟩ := bytes_exists ab
                    go_wp2_with fail
                    refine (madeWhole_pair g2 n n 2 a i y i2 x2 F p ab wF hn1 hF hS hvF hab hiF hg2 k0 k1).mono ?_
                    rintro e wG ⟨⟨mm, rfl, hM, h8⟩, hb7⟩
                    obtain rfl : mm = cc := hM cc hcc
                    rw [← HS.out]
                    obtain ⟨wo, hwo⟩ : ∃ wo : Nat, wo = 3 + B + 1 + mm := ⟨_, rfl⟩
                    rw [← hwo]
                    have hwo2 : ((wo : Int) == 3 + (B : Int) + 1 + (mm : Int)) = true := by simp; omega
                    have hwo3 : ((wo : Int) == 3 + (B : Int) + ((1 + mm : Nat) : Int)) = true := by simp; omega
                    have hwo4 : ((wo : Int) == 3 + (B : Int) + (1 + (mm : Int))) = true := by simp; omega
                    have v1 : IntKind.i64.wrap (3 + (B : Int)) = 3 + (B : Int) := by rw [IntKind.wrap_i64]; omega
                    have v2 : IntKind.i64.wrap (3 + (B : Int) + 1) = 3 + (B : Int) + 1 := by rw [IntKind.wrap_i64]; omega
                    have v3 : IntKind.i64.wrap (3 + (B : Int) + 1 + (mm : Int)) = 3 + (B : Int) + 1 + (mm : Int) := by rw [IntKind.wrap_i64]; omega
                    have v4 : IntKind.i64.wrap (3 + (B : Int) + ((1 + mm : Nat) : Int)) = 3 + (B : Int) + ((1 + mm : Nat) : Int) := by rw [IntKind.wrap_i64]; omega
                    have v5 : IntKind.i64.wrap (3 + (B : Int) + (1 + (mm : Int))) = 3 + (B : Int) + (1 + (mm : Int)) := by rw [IntKind.wrap_i64]; omega
                    have p0 := (hb7.cell (p := ⟨gO, 0, none⟩) hgO).trans o0
                    have p1 := (hb7.cell (p := ⟨gO, 1, none⟩) hgO).trans o1
                    have p2 := (hb7.cell (p := ⟨gO, 2, none⟩) hgO).trans o2
                    have pX := (hb7.cell (p := ⟨gX, 0, none⟩) hgXF).trans cXF
                    have hiG := hiF.later hb7
                    have hsG := hb7.size
                    have hbG := hbF.trans (hb7.mono hbF.size)
                    have hgO2 : gO < wG.heap.size := by omega
                    have hgX2 : gX < wG.heap.size := by omega
                    have HX : Hid (x.natAbs = ab) := HAB.out.symm
                    have HC : Hid (∀ w', Below wG.heap.size wG w' → w'.cell? ⟨gO, 0, none⟩ = some (.slice (some ⟨g2, 0, none⟩) 2 2) ∧ w'.cell? ⟨gO, 1, none⟩ = some (.int .i64 i2) ∧ w'.cell? ⟨gO, 2, none⟩ = some (.int .i64 x2) ∧ w'.cell? ⟨gX, 0, none⟩ = some (.pointer p)) := fun w' hb =>
                      ⟨(hb.cell (p := ⟨gO, 0, none⟩) hgO2).trans p0, (hb.cell (p := ⟨gO, 1, none⟩) hgO2).trans p1, (hb.cell (p := ⟨gO, 2, none⟩) hgO2).trans p2, (hb.cell (p := ⟨gX, 0, none⟩) hgX2).trans pX⟩
                    clear hb7 hbF o0 o1 o2 k0 k1 cXF hiF hvF hM HAB hwo HS hF hS hgO hgXF hg2
                    go_wp2_with fail
                    go_region_held3 (fun w' => w'.cell? ⟨gO, 0, none⟩ = some (.slice (some ⟨g2, 0, none⟩) 2 2) ∧ w'.cell? ⟨gO, 1, none⟩ = some (.int .i64 i2) ∧ w'.cell? ⟨gO, 2, none⟩ = some (.int .i64 x2) ∧ w'.cell? ⟨gX, 0, none⟩ = some (.pointer p)) (exact HC.out _ (by repeat (first | exact Below.refl _ _ | apply Below.drew | (refine Below.alloc ?_ (by simp <;> omega) _)))) ((first
                      | (go_at_call_of 10 g2; refine (made_list_at (some ⟨g2, 0, none⟩) 2 2 i2 x2 _ (by omega)).mono ?_; rintro e w' ⟨rfl, rfl⟩)
                      | (go_at_call 15; refine (absU64_any x _ hx0 hx1).mono ?_; rintro e w' ⟨rfl, rfl⟩; rw [HX.out])
                      | (go_at_call 14; refine (byteCount_at ab mm _ hab hcc).mono ?_; rintro e w' ⟨rfl, rfl⟩)
                      | (go_at_call_of 10 p; refine (made_int_at p ab mm _ hab ?_ hcc).mono ?_; exact hiG.later (by repeat (first | exact Below.refl _ _ | apply Below.drew | (refine Below.alloc ?_ (by simp <;> omega) _))); rintro e w' ⟨rfl, rfl⟩)))
                    go_wp2
                    go_ret
                    refine ⟨rfl, hbG.trans (Below.mono (B := wG.heap.size) ?_ hbG.size)⟩
                    repeat (first | exact Below.refl _ _ | apply Below.drew | (refine Below.alloc ?_ (by simp <;> omega) _))
end Go.Proofs.Qxb6609148a
