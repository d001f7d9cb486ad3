/- The walk of the third law. -/
import Derived.Test.Qxb6608989aMw7
import Derived.Test.Qxb6608989aMw9
namespace Go.Proofs.Qxb6608989a
open Go.RowKit

theorem zslice_from (a : Option Addr) (n cap c : Nat) (T : Nat → Zs) (hn : n ≤ cap) (hc : c ≤ n) (hnil : a = none → n = 0) : ∃ a2, (∀ w, (Instr.slice 31 (.slice a n cap) (some (.int .i64 (c : Int))) none none).run Try.prog w = .ok (.slice a2 (n - c) (cap - c)) w) ∧
    (∀ w, StatesAt w a n T → StatesAt w a2 (n - c) (fun i => T (c + i))) ∧ (a2 = none → n - c = 0) := by
  refine ⟨if cap = c then a else a.map (·.add (c * 4)), fun w => ?_, fun w h => h.cut hn (by omega), ?_⟩
  · rw [run_slice_l w 31 a n cap (by kernel_rfl) .i64 c (by omega) (by omega)]
    have e : (sizeOf (Try.prog.elem 31)).run Try.prog w = .ok 4 w := by kernel_rfl
    rw [e]
    simp [Result.andThen, sliced]
  · intro h
    have : a = none := by
      cases a with
      | none => rfl
      | some x => split at h <;> simp at h
    have := hnil this
    omega

theorem below_tri {w wd w1 w2 : World} (h1 : Below w.heap.size w wd) (h2 : Below wd.heap.size wd w1) (h3 : Below w1.heap.size w1 w2) : Below w.heap.size w w2 := by
  have s1 := h1.size
  have s2 := h2.size
  exact h1.trans ((h2.mono s1).trans (h3.mono (by omega)))

theorem pick_none {T : Nat → Zs} {nm : ByteArray} {n c : Nat} (h : fstTo T nm n = none) (hc : c ≤ n) : pickTo T nm c = zeroZs ∧ pickTo (fun i => T (c + i)) nm (n - c) = zeroZs := by
  have e := fstTo_add T nm c (n - c)
  rw [show c + (n - c) = n by omega, h] at e
  cases hq : fstTo T nm c with
  | some i => rw [hq] at e; simp at e
  | none =>
    rw [hq] at e
    refine ⟨pickTo_none hq, pickTo_none ?_⟩
    cases hr : fstTo (fun i => T (c + i)) nm (n - c) with
    | none => rfl
    | some i => rw [hr] at e; simp at e
theorem pick_left {T : Nat → Zs} {nm : ByteArray} {n c i : Nat} (h : fstTo T nm n = some i) (hc : c ≤ n) (hi : i < c) : pickTo T nm c = T i := by
  have e := fstTo_add T nm c (n - c)
  rw [show c + (n - c) = n by omega, h] at e
  cases hq : fstTo T nm c with
  | some j => rw [hq] at e; simp at e; subst e; exact pickTo_some hq
  | none =>
    rw [hq] at e
    cases hr : fstTo (fun i => T (c + i)) nm (n - c) with
    | none => rw [hr] at e; simp at e
    | some j => rw [hr] at e; simp at e; omega
theorem pick_right {T : Nat → Zs} {nm : ByteArray} {n c i : Nat} (h : fstTo T nm n = some i) (hc : c ≤ n) (hi : c ≤ i) : pickTo (fun i => T (c + i)) nm (n - c) = T i := by
  have e := fstTo_add T nm c (n - c)
  rw [show c + (n - c) = n by omega, h] at e
  cases hq : fstTo T nm c with
  | some j => rw [hq] at e; simp at e; subst e; have := fstTo_lt hq; omega
  | none =>
    rw [hq] at e
    cases hr : fstTo (fun i => T (c + i)) nm (n - c) with
    | none => rw [hr] at e; simp at e
    | some j => rw [hr] at e; simp at e; subst e; exact pickTo_some hr

/-- A local variable that holds a state. -/
def GotAt (w : World) (v : Value) (z : Zs) : Prop :=
  ∃ g p, v = .pointer (some ⟨g, 0, none⟩) ∧ g < w.heap.size ∧ w.cell? ⟨g, 0, none⟩ = some (.string z.name) ∧ w.cell? ⟨g, 1, none⟩ = some (.bool z.ended) ∧ w.cell? ⟨g, 2, none⟩ = some (.bool z.worked) ∧ w.cell? ⟨g, 3, none⟩ = some (.pointer p) ∧ RetryAt w (.pointer p) z.retry
theorem GotAt.later {w w' : World} {v : Value} {z : Zs} (h : GotAt w v z) (hb : Below w.heap.size w w') : GotAt w' v z := by
  obtain ⟨g, p, rfl, hg, c0, c1, c2, c3, hr⟩ := h
  exact ⟨g, p, rfl, Nat.lt_of_lt_of_le hg hb.size, (hb.cell (p := ⟨g, 0, none⟩) hg).trans c0, (hb.cell (p := ⟨g, 1, none⟩) hg).trans c1, (hb.cell (p := ⟨g, 2, none⟩) hg).trans c2, (hb.cell (p := ⟨g, 3, none⟩) hg).trans c3, hr.later hb⟩
theorem gotAt_new (w : World) (z : Zs) (p : Option Addr) (t : TypeId) (hr : RetryAt w (.pointer p) z.retry) : GotAt (w.alloc (.cells #[.string z.name, .bool z.ended, .bool z.worked, .pointer p] t)) (.pointer (some ⟨w.heap.size, 0, none⟩)) z :=
  ⟨_, p, rfl, by simp, by simp, by simp, by simp, by simp, hr.later ((Below.refl _ _).alloc (Nat.le_refl _) _)⟩

set_option maxRecDepth 8000 in
set_option maxHeartbeats 2000000 in
theorem law5_walk (s1 s2 s3 : ByteArray) (a0 : Option Addr) (n cap : Nat) (T : Nat → Zs) (a2 : Option Addr) (m cap2 : Nat) (Lf : Nat → Nat) (nm : ByteArray) (c : Int) (w : World) (hn : n ≤ cap) (hcap : cap ≤ 9223372036854775807) (hp : StatesAt w a0 n T) (hnil : a0 = none → n = 0) (hm : m ≤ 9223372036854775807) (hp2 : EventsAt w a2 m Lf) (hnil2 : a2 = none → m = 0) :
    Calls Try.prog 5 #[.string s1, .string s2, .string s3, .slice a0 n cap, .slice a2 m cap2, .string nm, .int .i64 c] w fun e w' => e = .returned (.bool true) ∧ Below w.heap.size w w' := by
  go_enter Try.func5, Try.ntmps5
  go_wp2_with fail
  refine (zzBytes13_any s1 s2 s3 a0 n cap T a2 m cap2 Lf nm c w (by omega) hp hm hp2).mono ?_
  rintro e w' ⟨⟨r, rfl, hLf⟩, rfl⟩
  cases r with
  | false =>
    go_wp2
    go_ret; exact ⟨rfl, Below.refl _ _⟩
  | true =>
    have hL2 := hLf rfl
    clear hLf
    go_wp2_with fail
    all_goals first | (go_ret; exact ⟨rfl, Below.refl _ _⟩) | skip
    refine (machineFits_any s1 s2 s3 a0 n cap T a2 m cap2 Lf _ w (by omega) hp (by omega) hp2 hL2).mono ?_
    rintro e w1 ⟨⟨r, rfl⟩, hb1⟩
    cases r with
    | false =>
      go_wp2
      go_ret; exact ⟨rfl, hb1⟩
    | true =>
      go_upto_region 9 with fail
      all_goals first | (go_ret; exact ⟨rfl, hb1⟩) | skip
      obtain ⟨c, rfl⟩ := Int.eq_ofNat_of_zero_le (show 0 ≤ c by omega)
      obtain ⟨a3, hsl, hcut3, hnil3⟩ := zslice_from a0 n cap c T hn (by omega) hnil
      have n1 : n ≤ 1048576 := by omega
      have m1 : m ≤ 1048576 := by omega
      have c1 : c ≤ n := by omega
      have HS : Hid (∀ w, (Instr.slice 31 (.slice a0 n cap) (some (.int .i64 (c : Int))) none none).run Try.prog w = .ok (.slice a3 (n - c) (cap - c)) w) := hsl
      clear hsl
      go_cut [15] (fun v wc => GotAt wc v (pickTo T nm n) ∧ Below w.heap.size w wc)
      case first =>
        go_wp2_with fail
        refine (toMachine_any s1 s2 s3 a0 n cap T a2 m cap2 Lf _ n1 (hp.later hb1) hnil m1 (hp2.later hb1) hnil2 hL2).mono ?_
        rintro e w2 ⟨g, a1, rfl, hg, hcell, hst, hb2⟩
        go_wp2_with fail
        refine (ZZstate_any g nm a1 n n T w2 n1 hg hcell hst).mono ?_
        rintro e w3 ⟨p1, rfl, hr1, hb3⟩
        clear hcell
        have hr3 := hr1.later hb3
        have hb4 := below_tri hb1 hb2 hb3
        go_wp2
        go_meet
        case rel => exact ⟨gotAt_new _ _ _ _ hr3, hb4.alloc hb4.size _⟩
      case rest =>
        obtain ⟨hgot, hbA⟩ := hcut
        obtain ⟨wA, rfl⟩ : ∃ wA : World, wA = wc := ⟨_, rfl⟩
        go_upto_region 10 with fail
        go_cut [16] (fun v wc => GotAt wc v (pickTo T nm c) ∧ Below wA.heap.size wA wc)
        case first =>
          go_wp2_with fail
          refine (toMachine_any s1 s2 s3 a0 c cap T a2 m cap2 Lf _ (by omega) ((hp.later hbA).take c1) (fun h => by have := hnil h; omega) m1 (hp2.later hbA) hnil2 hL2).mono ?_
          rintro e w2 ⟨g, a1, rfl, hg, hcell, hst, hb2⟩
          go_wp2_with fail
          refine (ZZstate_any g nm a1 c c T w2 (by omega) hg hcell hst).mono ?_
          rintro e w3 ⟨p1, rfl, hr1, hb3⟩
          clear hcell
          have hr3 := hr1.later hb3
          have hb4 := hb2.trans (hb3.mono hb2.size)
          go_wp2
          go_meet
          case rel => exact ⟨gotAt_new _ _ _ _ hr3, hb4.alloc hb4.size _⟩
        case rest =>
          obtain ⟨hleft, hbB⟩ := hcut
          obtain ⟨wB, rfl⟩ : ∃ wB : World, wB = wc := ⟨_, rfl⟩
          have hbB2 := hbA.trans (hbB.mono hbA.size)
          go_upto_region 11 with fail
          go_cut [17] (fun v wc => GotAt wc v (pickTo (fun i => T (c + i)) nm (n - c)) ∧ Below wB.heap.size wB wc)
          case first =>
            have hsl := HS.out
            go_wp2_with fail
            clear hsl
            refine (toMachine_any s1 s2 s3 a3 (n - c) _ (fun i => T (c + i)) a2 m cap2 Lf _ (by omega) (hcut3 _ (hp.later hbB2)) hnil3 m1 (hp2.later hbB2) hnil2 hL2).mono ?_
            rintro e w2 ⟨g, a1, rfl, hg, hcell, hst, hb2⟩
            go_wp2_with fail
            refine (ZZstate_any g nm a1 (n - c) (n - c) _ w2 (by omega) hg hcell hst).mono ?_
            rintro e w3 ⟨p1, rfl, hr1, hb3⟩
            clear hcell
            have hr3 := hr1.later hb3
            have hb4 := hb2.trans (hb3.mono hb2.size)
            go_wp2
            go_meet
            case rel => exact ⟨gotAt_new _ _ _ _ hr3, hb4.alloc hb4.size _⟩
          case rest =>
            obtain ⟨hright, hbC⟩ := hcut
            have hbC2 := hbB2.trans (hbC.mono hbB2.size)
            have hgot2 := (hgot.later hbB).later hbC
            have hleft2 := hleft.later hbC
            have hp3 := hp.later hbC2
            clear hgot hleft hbA hbB hbB2 hbC hp hp2 HS hcut3 hnil hnil2 hnil3 hL2 hb1
            go_wp2_with fail
            refine (firstNamed_any a0 n cap T nm wc n1 hp3).mono ?_
            rintro e w4 ⟨rfl, rfl⟩
            cases hf : fstTo T nm n with
            | none =>
              rw [pickTo_none hf] at hgot2
              rw [(pick_none hf c1).1] at hleft2
              rw [(pick_none hf c1).2] at hright
              clear hf hp3
              simp only [ixOf]
              obtain ⟨g1, p1, rfl, hg1, x0, x1, x2, x3, hr1⟩ := hgot2
              obtain rfl : p1 = none := by simpa [RetryAt, zeroZs] using hr1
              go_wp2_with fail
              refine (isZero_any wc).mono ?_
              rintro e w5 ⟨rfl, hb5⟩
              clear x0 x1 x2 x3
              obtain ⟨g2, p2, rfl, hg2, y0, y1, y2, y3, hr2⟩ := hleft2.later hb5
              obtain rfl : p2 = none := by simpa [RetryAt, zeroZs] using hr2
              go_wp2_with fail
              refine (isZero_any w5).mono ?_
              rintro e w6 ⟨rfl, hb6⟩
              clear y0 y1 y2 y3
              obtain ⟨g3, p3, rfl, hg3, z0, z1, z2, z3, hr3⟩ := (hright.later hb5).later hb6
              obtain rfl : p3 = none := by simpa [RetryAt, zeroZs] using hr3
              go_wp2_with fail
              refine (isZero_any w6).mono ?_
              rintro e w7 ⟨rfl, hb7⟩
              go_wp2
              go_ret
              exact ⟨rfl, below_tri hbC2 hb5 (hb6.trans (hb7.mono hb6.size))⟩
            | some i =>
              have hi := fstTo_lt hf
              rw [pickTo_some hf] at hgot2
              have HF : Hid (fstTo T nm n = some i) := hf
              clear hf
              simp only [ixOf]
              obtain ⟨g1, p1, rfl, hg1, x0, x1, x2, x3, hr1⟩ := hgot2
              obtain ⟨b, off, rfl, hb, hc⟩ := hp3 (by omega)
              obtain ⟨q, y0, y1, y2, y3, hrq⟩ := hc i hi
              obtain ⟨pq, rfl⟩ := hrq.ptr
              clear hc hp3
              have i0 : (0 : Int) ≤ (i : Int) := by omega
              have i1 : (i : Int) < (n : Int) := by omega
              go_wp2_with fail
              obtain ⟨wD, rfl⟩ : ∃ wD : World, wD = wc := ⟨_, rfl⟩
              have hrd := hr1.later (Below.refl wD.heap.size wD).drew
              have hrqd := hrq.later (Below.refl wD.heap.size wD).drew
              go_cut [107] (fun v wc => v = .bool false ∧ Below wD.heap.size wD wc)
              case first =>
                go_region_with (go_at_call 19; refine (stateIs_any (T i) (.pointer p1) (.pointer pq) _ hrd hrqd).mono ?_; rintro e w5 ⟨rfl, hb5⟩)
                all_goals (go_wp2; go_meet; exact ⟨rfl, (Below.refl wD.heap.size wD).drew.trans hb5⟩)
              case rest =>
                obtain ⟨rfl, hb5⟩ := hcut
                obtain ⟨g1', p1', hv1, hg1', u0, u1, u2, u3, hr1'⟩ := (show GotAt wD (.pointer (some ⟨g1, 0, none⟩)) (T i) from ⟨g1, p1, rfl, hg1, x0, x1, x2, x3, hr1⟩).later hb5
                obtain rfl : g1 = g1' := by simpa using hv1
                clear x0 x1 x2 x3 y0 y1 y2 y3 hrq hrd hrqd hr1 hv1
                by_cases hic : i < c
                · rw [pick_left HF.out c1 hic] at hleft2
                  obtain ⟨g2, p2, rfl, hg2, v0, v1, v2, v3, hr2⟩ := hleft2.later hb5
                  go_wp2_with fail
                  refine (statesEqual_any (T i) (.pointer p1') (.pointer p2) _ hr1' hr2).mono ?_
                  rintro e w7 ⟨rfl, hb7⟩
                  go_wp2
                  go_ret
                  exact ⟨rfl, below_tri hbC2 hb5 hb7⟩
                · rw [pick_right HF.out c1 (by omega)] at hright
                  obtain ⟨g2, p2, rfl, hg2, v0, v1, v2, v3, hr2⟩ := hright.later hb5
                  go_wp2_with fail
                  refine (statesEqual_any (T i) (.pointer p1') (.pointer p2) _ hr1' hr2).mono ?_
                  rintro e w7 ⟨rfl, hb7⟩
                  go_wp2
                  go_ret
                  exact ⟨rfl, below_tri hbC2 hb5 hb7⟩
end Go.Proofs.Qxb6608989a
