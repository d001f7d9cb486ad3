/- The walk of the third law. -/
import Derived.Test.Qxb6614451aW20
namespace Go.Proofs.Qxb6614451a
open Go.RowKit

set_option maxRecDepth 100000 in
set_option maxHeartbeats 8000000 in
theorem law5_walk (a : Option Addr) (n cap : Nat) (T : Nat → Int) (h : Int) (pu re fr : Bool) (ho hoT hd : Int) (b : Option Addr) (nl cap2 : Nat) (f : Nat → Nat → Int) (sp : Int) (w : World) (hn : n ≤ 9223372036854775807) (hnl : nl ≤ 9223372036854775807) (hp : TriesAt w a n T) (hq : LinksAt w b nl f)
    (bh : -2147483648 ≤ h ∧ h ≤ 2147483647) (bho : -2147483648 ≤ ho ∧ ho ≤ 2147483647) (bhd : -2147483648 ≤ hd ∧ hd ≤ 2147483647) :
    Calls Try.prog 5 #[.slice a n cap, .int .i32 h, .bool pu, .bool re, .bool fr, .int .i32 ho, .int .i32 hoT, .int .i32 hd, .slice b nl cap2, .int .i32 sp] w fun e w' => e = .returned (.bool true) ∧ Below w.heap.size w w' := by
  go_enter Try.func5, Try.ntmps5
  go_wp2_with fail
  refine (zzBytes14 a n cap b nl cap2 _ _ _ _ _ _ _ _ w hn hnl).mono ?_
  rintro e w' ⟨⟨r, rfl⟩, rfl⟩
  cases r with
  | false =>
    go_wp2
    go_ret; exact ⟨rfl, Below.refl _ _⟩
  | true => ?_
  go_upto_region 11 with fail
  all_goals first | (go_ret; exact ⟨rfl, Below.refl _ _⟩) | skip
  have n1 : n ≤ 65536 := by omega
  have nl1 : nl ≤ 65536 := by omega
  obtain ⟨h, rfl⟩ := Int.eq_ofNat_of_zero_le (show 0 ≤ h by omega)
  have hhn : h < n := by omega
  go_cut [99] from 48 to 99 (fun v wc => v = .bool (decide (hoT ≠ 0 ∧ (ho < 0 ∨ (n : Int) ≤ ho))) ∧ w = wc)
  case first =>
    by_cases hz : hoT = 0
    · subst hz
      go_wp2
      go_meet
      case rel => exact ⟨by simp, rfl⟩
    · by_cases h1 : ho < 0
      · go_wp2
        go_meet
        case rel => exact ⟨by simp [hz, h1], rfl⟩
      · by_cases h2 : (n : Int) ≤ ho
        · go_wp2
          go_meet
          case rel => exact ⟨by simp [hz, h2], rfl⟩
        · go_wp2
          go_meet
          case rel => exact ⟨by simp [h1, h2], rfl⟩
  obtain ⟨rfl, rfl⟩ := hcut
  by_cases hbad : hoT ≠ 0 ∧ (ho < 0 ∨ (n : Int) ≤ ho)
  · have hbd : decide (hoT ≠ 0 ∧ (ho < 0 ∨ (n : Int) ≤ ho)) = true := by simpa using hbad
    rw [hbd]
    clear hbd hbad
    go_wp2
    go_ret; exact ⟨rfl, Below.refl _ _⟩
  have hbd : decide (hoT ≠ 0 ∧ (ho < 0 ∨ (n : Int) ≤ ho)) = false := by simpa using hbad
  have Hho : Hid (hoT ≠ 0 → 0 ≤ ho ∧ ho < n) := fun e => by
    have : ¬ (ho < 0 ∨ (n : Int) ≤ ho) := fun k => hbad ⟨e, k⟩
    omega
  rw [hbd]
  clear hbd hbad
  have hmb : ∀ w : World, (Instr.makeSlice 34 (.int .i64 (nl : Int)) (.int .i64 (nl : Int))).run Try.prog w = .ok (.slice (some ⟨w.heap.size, 0, none⟩) nl nl) (w.alloc (.cells (madeCells #[.bool false] (nl * 1)) 4)) := make_cap (P := Try.prog) 34 4 _ 1 1 Try.underlying34 Try.info4 .i64 .i64 nl nl (Nat.le_refl _) (by omega) (by omega)
  have hmk0 : ∀ w : World, (Instr.makeSlice 26 (.int .i64 0) (.int .i64 (nl : Int))).run Try.prog w = .ok (.slice (some ⟨w.heap.size, 0, none⟩) 0 nl) (w.alloc (.cells (madeCells #[.int .i32 0] (nl * 1)) 21)) := make_cap (P := Try.prog) 26 21 _ 1 4 Try.underlying26 Try.info21 .i64 .i64 0 nl (by omega) (by omega) (by omega)
  have Hp : Hid (TriesAt w a n T) := hp
  have Hq : Hid (LinksAt w b nl f) := hq
  clear hp hq
  go_wp2
  clear hmb hmk0
  go_loopg [24, 25] (nl + 1) (fun k v24 v25 wr => ∃ (m : Nat) (seq : Nat → Int) (on : Nat → Bool), k + m = nl + 1 ∧ v24 = .slice (some ⟨w.heap.size + 1, 0, none⟩) m nl ∧ v25 = .int .i32 (seq m) ∧ PChain f n nl m seq on ∧ seq 0 = hd ∧ (-2147483648 ≤ seq m ∧ seq m ≤ 2147483647) ∧ Mem1 wr w.heap.size nl m seq on ∧ Below w.heap.size w wr)
  case atStart =>
    have hM := mem1_start w nl (by unfold maxLen; omega) (fun _ => hd)
    rw [Nat.mul_one] at hM
    exact ⟨0, fun _ => hd, fun _ => false, by omega, rfl, rfl, ⟨fun k hk => by omega, fun a b ha => by omega, fun k hk => by omega, fun k hk => by omega, fun i _ _ k hk => by omega⟩, rfl, bhd, hM, ((Below.refl _ _).alloc (Nat.le_refl _) _).alloc (by simp) _⟩
  obtain ⟨m, seq, on, hk, rfl, rfl, hC, hs0, hbd, hM, hbel⟩ := hrel
  have hmn := hC.le
  by_cases hpos : 0 ≤ seq m
  · obtain ⟨x, hx⟩ := Int.eq_ofNat_of_zero_le hpos
    rw [hx] at hbd ⊢
    have HB : Hid (Below w.heap.size w wr) := hbel
    have HC : Hid (PChain f n nl m seq on ∧ seq 0 = hd) := ⟨hC, hs0⟩
    have HM : Hid (Mem1 wr w.heap.size nl m seq on) := hM
    have Hx : Hid (seq m = x) := hx
    have hHr : w.heap.size + 1 < wr.heap.size := hM.rr.lt
    clear hbel hC hs0 hM hx hpos
    by_cases hxn : x < nl
    · have z1 := HM.out.rb.cell hxn
      have y1 := HM.out.rb.frozen x
      cases hon : on x with
      | true =>
        rw [hon] at z1
        go_wp2
        go_ret; exact ⟨rfl, HB.out⟩
      | false =>
        rw [hon] at z1
        obtain ⟨bb, off, rfl, hbb, hcs⟩ := Hq.out (by omega)
        obtain ⟨c0, _, _, c3, b0, b3⟩ := hcs x hxn
        have HQ3 : Hid (w.cell? ⟨bb, off + x * 4 + 3, none⟩ = some (.int .i32 (f x 3))) := c3
        replace c0 := (HB.out.cell (p := ⟨bb, off + x * 4, none⟩) hbb).trans c0
        clear hcs c3
        by_cases hcr : 0 ≤ f x 0 ∧ f x 0 < n
        · have hcl : ¬ f x 0 < 0 := by omega
          have hcu : ¬ (n : Int) ≤ f x 0 := by omega
          obtain ⟨i0, hi, hz0, hz1, hz2⟩ := info_parts Try.info21
          obtain ⟨xs, hox, hxx⟩ := HM.out.rr.far (a := ⟨w.heap.size, x, none⟩) (by simp) (.bool true)
          have hnx := HC.out.1.next Hx.out hxn hon hcr
          have hle := hnx.1.le
          have HN : Hid _ := hnx
          have Hox : Hid _ := hox
          have Hxx : Hid _ := hxx
          have Hcr : Hid _ := hcr
          clear hox hxx hnx hcr hon
          go_wp2_with (at_builtin; refine wpList_append_fits _ (by rfl) (.tmp 136) (.tmp 138) 26 (by rfl) (w.heap.size + 1) 21 i0 1 Try.underlying26 hi hz1 (w.heap.size + 1) m nl xs (by rfl) (World.ownsRow.alloc Hox _) ⟨wr.heap.size, 0, none⟩ 1 1 [.int .i32 x] (by rfl) (by rfl) ?ka1 ?kb1 ?kc1 ?_)
          try any_goals (first | exact new_one_at (by simp) | exact one_cell | rfl | omega)
          intro w3 hown3 hgrow3
          obtain ⟨hM3, hb3⟩ := HM.out.push Hx.out (by have := Hox.out.1; omega) Hxx.out hown3 hgrow3 (f x 3)
          have hbA := HB.out.trans hb3
          have q3 := (hbA.cell (p := ⟨bb, off + x * 4 + 3, none⟩) hbb).trans HQ3.out
          have HM3 : Hid _ := hM3
          have HB3 : Hid _ := hbA
          clear hM3 hbA hb3 hown3 hgrow3 c0 z1 y1 hz0 hz1 hz2
          go_wp2
          go_roundg (gk - 1)
          case measure => omega
          case rel =>
            refine ⟨m + 1, upd seq (m + 1) (f x 3), updB on x true, by omega, rfl, by simp [upd], HN.out.1, ?_, by simp only [upd, if_true]; exact b3, HM3.out, HB3.out⟩
            rw [HN.out.2 0 (by omega)]; exact HC.out.2
        · by_cases hcl : f x 0 < 0
          · go_wp2
            go_ret; exact ⟨rfl, HB.out⟩
          · have hcu : (n : Int) ≤ f x 0 := by omega
            go_wp2
            go_ret; exact ⟨rfl, HB.out⟩
    · have hxn2 : (nl : Int) ≤ x := by omega
      go_wp2
      go_ret; exact ⟨rfl, HB.out⟩
  have hneg : seq m < 0 := by omega
  have HC : Hid (Chain f n nl m seq ∧ seq 0 = hd) := ⟨hC.done hneg, hs0⟩
  have HA : Hid (Row wr (w.heap.size + 1) nl m seq ∧ Below w.heap.size w wr) := ⟨hM.rr, hbel⟩
  clear hM hbel hC hs0 hpos hk
  obtain ⟨wA, rfl⟩ : ∃ wA : World, wA = wr := ⟨_, rfl⟩
  go_upto_region 25 with fail
  refine part25 a n cap T h pu re fr ho hoT hd b nl cap2 f sp w m seq wA n1 nl1 hhn hmn Hho Hp Hq HC HA _ ?_
  assumption
end Go.Proofs.Qxb6614451a
