/- The walk of the first law. -/
import Derived.Test.Qxb6614451aW3
namespace Go.Proofs.Qxb6614451a
open Go.RowKit

theorem linkAt_new (w : World) (g B : Nat) (lv : Value) (n : Nat) (f : Nat → Nat → Int) (s : Int) (k : Nat) (c t m x : Int) (h : Graph w g B lv n (updE f k c t m x) s) (hk : k < n) (h31 : n ≤ 2147483647) :
    Calls Try.prog 11 #[.pointer (some ⟨g, 0, none⟩), .int .i32 k] w fun e w' => e = .returned (.tuple #[.int .i32 c, .int .i32 t, .int .i32 m, .int .i32 x]) ∧ Below w.heap.size w w' := by
  have := linkAt w g B lv n _ s h k hk h31
  simpa [updE] using this

set_option maxRecDepth 8000 in
set_option maxHeartbeats 2000000 in
theorem law3_walk (a : Option Addr) (n cap : Nat) (S : Nat → Nat → Int) (w : World) (hn : n ≤ 9223372036854775807) (hp : StepsAt w a n S) :
    Calls Try.prog 3 #[.slice a n cap] w fun e w' => e = .returned (.bool true) ∧ Below w.heap.size w w' := by
  go_enter Try.func3, Try.ntmps3
  go_wp2_with fail
  refine (zzBytes7 a n cap w hn).mono ?_
  rintro e w' ⟨⟨r, rfl⟩, rfl⟩
  cases r with
  | false =>
    go_wp2
    go_ret; exact ⟨rfl, Below.refl _ _⟩
  | true =>
    go_wp2_with fail
    all_goals first | (go_ret; exact ⟨rfl, Below.refl _ _⟩) | skip
    refine (newGraph w).mono ?_
    rintro e w1 ⟨rfl, C, rfl, hC⟩
    have n1 : n ≤ 32768 := by omega
    have hC' : Hid (C.size = 23 ∧ C[12]? = some (.slice none 0 0) ∧ C[13]? = some (.int .i32 (-1))) := hC
    clear hC
    have hmk : ∀ w : World, (Instr.makeSlice 26 (.int .i64 (n : Int)) (.int .i64 (n : Int))).run Try.prog w = .ok (.slice (some ⟨w.heap.size, 0, none⟩) n n) (w.alloc (.cells (madeCells #[.int .i32 0] (n * 1)) 21)) := make_cap (P := Try.prog) 26 21 _ 1 4 Try.underlying26 Try.info21 .i64 .i64 n n (Nat.le_refl _) (by omega) (by omega)
    have hmk0 : ∀ w : World, (Instr.makeSlice 26 (.int .i64 0) (.int .i64 (n : Int))).run Try.prog w = .ok (.slice (some ⟨w.heap.size, 0, none⟩) 0 n) (w.alloc (.cells (madeCells #[.int .i32 0] (n * 1)) 21)) := make_cap (P := Try.prog) 26 21 _ 1 4 Try.underlying26 Try.info21 .i64 .i64 0 n (by omega) (by omega) (by omega)
    go_wp2
    clear hmk hmk0
    go_loopg [9, 10, 11, 12] n (fun k v9 v10 v11 v12 wr => ∃ (i nf nl : Nat) (ff lf : Nat → Int) (lv : Value) (f : Nat → Nat → Int) (s : Int) (hc ht hm hx : Nat → Int), k + i = n ∧ v9 = .slice (some ⟨w.heap.size + 5, 0, none⟩) nf n ∧ v10 = .slice (some ⟨w.heap.size + 6, 0, none⟩) nl n ∧ v11 = .int .i32 (nf + nl : Nat) ∧ v12 = .int .i64 i ∧ nf + nl ≤ i ∧ Mem wr w.heap.size n nf nl ff lf lv f s hc ht hm hx ∧ Inv s f nf ff nl lf ∧ Mir (nf + nl) f hc ht hm hx ∧ Below w.heap.size w wr)
    case atStart =>
      refine ⟨0, 0, 0, _, _, _, _, _, _, _, _, _, by omega, rfl, rfl, rfl, rfl, by omega, by have := mem_start w C n (by unfold maxLen; omega) hC'; rw [Nat.mul_one] at this; exact this, Inv.start _ _ _, fun i hi => by omega, ?_⟩
      have b0 : Below w.heap.size w (w.alloc (.cells C 64)) := (Below.refl _ _).alloc (Nat.le_refl _) _
      exact (((((b0.alloc (by simp) _).alloc (by simp; omega) _).alloc (by simp; omega) _).alloc (by simp; omega) _).alloc (by simp; omega) _).alloc (by simp; omega) _
    case round =>
      obtain ⟨i, nf, nl, ff, lf, lv, f, s, hc, ht, hm, hx, hk, rfl, rfl, rfl, rfl, hfl, hM, hI, hmir, hbel⟩ := hrel
      by_cases hlt : i < n
      · have HM : Hid (Mem wr w.heap.size n nf nl ff lf lv f s hc ht hm hx ∧ Inv s f nf ff nl lf ∧ Mir (nf + nl) f hc ht hm hx ∧ Below w.heap.size w wr) := ⟨hM, hI, hmir, hbel⟩
        obtain ⟨b, off, rfl, hb, hst⟩ := hp (by omega)
        obtain ⟨c0, c1, c2, c3, c4, l4, u4⟩ := hst i hlt
        replace c0 := (hbel.cell (p := ⟨b, off + i * 5, none⟩) hb).trans c0
        replace c1 := (hbel.cell (p := ⟨b, off + i * 5 + 1, none⟩) hb).trans c1
        replace c2 := (hbel.cell (p := ⟨b, off + i * 5 + 2, none⟩) hb).trans c2
        replace c3 := (hbel.cell (p := ⟨b, off + i * 5 + 3, none⟩) hb).trans c3
        replace c4 := (hbel.cell (p := ⟨b, off + i * 5 + 4, none⟩) hb).trans c4
        have hHr : w.heap.size + 7 ≤ wr.heap.size := hM.gr.le
        have hcf : 0 < nf → wr.cell? ⟨w.heap.size + 5, nf - 1, none⟩ = some (.int .i32 (ff (nf - 1))) := fun h => hM.rf.cell (by omega)
        clear hM hI hmir hbel hst hp
        go_upto_if 61 with fail
        have Hcf : Hid (0 < nf → wr.cell? ⟨w.heap.size + 5, nf - 1, none⟩ = some (.int .i32 (ff (nf - 1)))) := hcf
        clear hcf
        go_cut [9, 11, 14] (fun v9 v11 v14 wc => ∃ (nf' cnt : Nat) (want : Int), v9 = .slice (some ⟨w.heap.size + 5, 0, none⟩) nf' n ∧ v11 = .int .i32 cnt ∧ v14 = .int .i32 want ∧ wc = wr.alloc (.cells #[.int .i32 (S i 0), .int .i32 (S i 1), .int .i32 (S i 2), .int .i32 (S i 3), .int .i32 (S i 4)] 28) ∧ Popped nf nl ff nf' cnt want)
        case first =>
          cases nf with
          | zero =>
            have e1 : nl + 1 ≤ 32768 := by omega
            go_wp2
            go_meet
            case rel => exact ⟨0, nl + 1, nl, rfl, by go_num, by go_num, rfl, .inl ⟨rfl, rfl, rfl, rfl⟩⟩
          | succ m =>
            have hcf : wr.cell? ⟨w.heap.size + 5, m, none⟩ = some (.int .i32 (ff m)) := Hcf.out (by omega)
            have hlt5 : w.heap.size + 5 < wr.heap.size := by omega
            go_wp2
            go_meet
            case rel => exact ⟨m, m + 1 + nl, ff m, rfl, rfl, rfl, rfl, .inr ⟨rfl, rfl, rfl⟩⟩
        case rest =>
          obtain ⟨nf', cnt, want, rfl, rfl, rfl, rfl, hpop⟩ := hcut
          have hPop : Hid (Popped nf nl ff nf' cnt want) := hpop
          clear hpop Hcf c0 c1 c2 c3 c4
          have HM1 : Hid (Mem wr w.heap.size n nf nl ff lf lv f s hc ht hm hx) := HM.out.1
          go_wp2_with fail
          refine (zzlink _ w.heap.size (w.heap.size + 7) lv (nf + nl) f s (HM1.out.gr.alloc _) HM.out.2.1.lt (by omega) _ _ _ _).mono ?_
          rintro e w1 ⟨k, n', s', lv', rfl, hG1, hoff, hres⟩
          obtain ⟨rfl, rfl, hn', hkn, hI1, hcn⟩ := popped_link HM.out.2.1 hPop.out hres (S i 0) (S i 1) (S i 2) (S i 3)
          obtain ⟨⟨r1, r2, r3, r4, r5, r6⟩, hbox, hsz, hb1⟩ := HM1.out.off _ hoff
          have hrows : _ ∧ _ ∧ _ ∧ _ ∧ Row w1 (w.heap.size + 5) n nf' ff ∧ _ := ⟨r1, r2, r3, r4, popped_row hPop.out r5, r6⟩
          clear r1 r2 r3 r4 r5 r6
          have Hmir := HM.out.2.2.1.link hcn (S i 0) (S i 1) (S i 2) (S i 3)
          have HM2 : Hid (Inv s' (updE f k (S i 0) (S i 1) (S i 2) (S i 3)) nf' ff (nl + 1) (upd lf nl k) ∧ Mir n' (updE f k (S i 0) (S i 1) (S i 2) (S i 3)) (upd hc k (S i 0)) (upd ht k (S i 1)) (upd hm k (S i 2)) (upd hx k (S i 3)) ∧ Below w.heap.size w w1 ∧ n' ≤ i + 1) := ⟨hI1, Hmir, HM.out.2.2.2.trans hb1, by omega⟩
          have n'1 : n' ≤ 32768 := by omega
          have HG1 : Hid (Graph w1 w.heap.size (w.heap.size + 7) lv' n' (updE f k (S i 0) (S i 1) (S i 2) (S i 3)) s') := hG1
          obtain ⟨q0, q1, q2, q3, q4⟩ := boxC hbox
          clear hI1 hcn hb1 Hmir hres hoff hG1 HM HM1 hPop
          go_wp2_with fail
          refine (linkCount _ _ _ _ _ _ _ HG1).mono ?_
          rintro e w2 ⟨rfl, rfl⟩
          go_wp2_with fail
          refine (linkAt_new _ _ _ _ _ _ _ k _ _ _ _ HG1 hkn (by omega)).mono ?_
          rintro e w2 ⟨rfl, hb2⟩
          have HG2 := HG1.out.later hb2
          obtain ⟨r1, r2, r3, r4, r5, r6⟩ := hrows
          replace r1 := r1.later hb2
          replace r2 := r2.later hb2
          replace r3 := r3.later hb2
          replace r4 := r4.later hb2
          replace r5 := r5.later hb2
          replace r6 := r6.later hb2
          have hrows := Mem.store (k := k) (S i 0) (S i 1) (S i 2) (S i 3) ⟨r1, r2, r3, r4, r5, r6⟩
          have hG3 := Graph.store4 (k := k) HG2 (.int .i32 (S i 0)) (.int .i32 (S i 1)) (.int .i32 (S i 2)) (.int .i32 (S i 3))
          have hn'i := HM2.out.2.2.2
          have hkn2 : k < n := by omega
          have hnl : nl < n := by omega
          replace q0 := (hb2.cell (p := ⟨wr.heap.size, 0, none⟩) hsz).trans q0
          replace q1 := (hb2.cell (p := ⟨wr.heap.size, 1, none⟩) hsz).trans q1
          replace q2 := (hb2.cell (p := ⟨wr.heap.size, 2, none⟩) hsz).trans q2
          replace q3 := (hb2.cell (p := ⟨wr.heap.size, 3, none⟩) hsz).trans q3
          replace q4 := (hb2.cell (p := ⟨wr.heap.size, 4, none⟩) hsz).trans q4
          have z1 := r1.cell hkn2
          have z2 := r2.cell hkn2
          have z3 := r3.cell hkn2
          have z4 := r4.cell hkn2
          have y1 := r1.frozen k
          have y2 := r2.frozen k
          have y3 := r3.frozen k
          have y4 := r4.frozen k
          have hs2 : wr.heap.size < w2.heap.size := Nat.lt_of_lt_of_le hsz hb2.size
          have HB : Hid _ := (hb2.block wr.heap.size hsz).trans hbox
          have HR : Hid _ := hrows
          have HG3 : Hid _ := hG3
          have HM3 : Hid (Inv s' (updE f k (S i 0) (S i 1) (S i 2) (S i 3)) nf' ff (nl + 1) (upd lf nl k) ∧ Mir n' (updE f k (S i 0) (S i 1) (S i 2) (S i 3)) (upd hc k (S i 0)) (upd ht k (S i 1)) (upd hm k (S i 2)) (upd hx k (S i 3)) ∧ Below w.heap.size w w2 ∧ n' ≤ i + 1) := ⟨HM2.out.1, HM2.out.2.1, HM2.out.2.2.1.trans (hb2.mono (by omega)), HM2.out.2.2.2⟩
          clear hrows hG3 r1 r2 r3 r4 r5 r6 hb2 HG2 HG1 HM2 hbox
          go_upto_region 33 with fail
          go_cut [10] (fun v wc => v = .slice (some ⟨w.heap.size + 6, 0, none⟩) (nl + 1) n ∧ Mem wc w.heap.size n nf' (nl + 1) ff (upd lf nl k) lv' (updE f k (S i 0) (S i 1) (S i 2) (S i 3)) s' (upd hc k (S i 0)) (upd ht k (S i 1)) (upd hm k (S i 2)) (upd hx k (S i 3)) ∧ wc.heap[wr.heap.size]? = some (.cells #[.int .i32 (S i 0), .int .i32 (S i 1), .int .i32 (S i 2), .int .i32 (S i 3), .int .i32 (S i 4)] 28 (0, 0)) ∧ Below w.heap.size w wc)
          case first =>
            obtain ⟨i0, hi, hz0, hz1, hz2⟩ := info_parts Try.info21
            obtain ⟨xs, hox, hxx⟩ := HR.out.2.2.2.2.2
            have Hox : Hid _ := hox
            have Hxx : Hid _ := hxx
            clear hox hxx q0 q1 q2 q3 q4 z1 z2 z3 z4 y1 y2 y3 y4
            go_wp2_with (at_builtin; refine wpList_append_fits _ rfl (.tmp 145) (.tmp 147) 26 rfl (w.heap.size + 6) 21 i0 1 Try.underlying26 hi hz1 (w.heap.size + 6) nl n xs rfl (World.ownsRow.alloc Hox _) ⟨w2.heap.size, 0, none⟩ 1 1 [.int .i32 k] rfl rfl ?c1 ?c2 ?c3 ?_)
            case c1 => exact new_one_at (by simp)
            case c2 => exact one_cell
            case c3 => omega
            intro w3 hown3 hgrow3
            have HR' := HR.out
            have HP := Mem.push (by rw [← hn']; exact HG3.out) ⟨HR'.1, HR'.2.1, HR'.2.2.1, HR'.2.2.2.1, HR'.2.2.2.2.1⟩ (by have := Hox.out.1; omega) Hxx.out hown3 hgrow3
            have hbx := (HP.2 wr.heap.size (by omega) (by simpa using hs2)).trans ((heap_store4 _ _ _ _ (.inr (by omega))).trans HB.out)
            have hbl : Below w.heap.size w w3 := by
              have h1 := HM3.out.2.2.1
              refine h1.trans ⟨hgrow3.os, hgrow3.tape, hgrow3.output, Nat.le_trans (by simp) hgrow3.size, fun b hb => ?_⟩
              exact (HP.2 b (by omega) (by simp; have := h1.size; omega)).trans (heap_store4 _ _ _ _ (.inl (by omega)))
            have HF : Hid _ := And.intro HP.1 (And.intro hbx hbl)
            clear HP hbx hbl hown3 hgrow3 HR'
            go_wp2
            go_meet
            case rel => exact ⟨rfl, HF.out⟩
          case rest =>
            obtain ⟨rfl, hM, hbx, hbel⟩ := hcut
            obtain ⟨wA, rfl⟩ : ∃ wA : World, wA = wc := ⟨_, rfl⟩
            clear q0 q1 q2 q3 q4 z1 z2 z3 z4 y1 y2 y3 y4 HR HG3 HB
            have hq4 := (boxC hbx).2.2.2.2
            have hI := HM3.out.1
            have HI : Hid (Inv s' (updE f k (S i 0) (S i 1) (S i 2) (S i 3)) nf' ff (nl + 1) (upd lf nl k) ∧ Mir n' (updE f k (S i 0) (S i 1) (S i 2) (S i 3)) (upd hc k (S i 0)) (upd ht k (S i 1)) (upd hm k (S i 2)) (upd hx k (S i 3))) := ⟨HM3.out.1, HM3.out.2.1⟩
            have HMA : Hid (Mem wA w.heap.size n nf' (nl + 1) ff (upd lf nl k) lv' (updE f k (S i 0) (S i 1) (S i 2) (S i 3)) s' (upd hc k (S i 0)) (upd ht k (S i 1)) (upd hm k (S i 2)) (upd hx k (S i 3)) ∧ Below w.heap.size w wA) := ⟨hM, hbel⟩
            clear HM3 hbx
            by_cases hfree : 0 ≤ S i 4 ∧ S i 4 < (nl : Int) + 1
            · obtain ⟨j, hj⟩ := Int.eq_ofNat_of_zero_le hfree.1
              rw [hj] at hq4 hfree l4 u4
              have hjl : j < nl + 1 := by omega
              have hdr := hI.lr j hjl
              obtain ⟨d, hd⟩ := Int.eq_ofNat_of_zero_le hdr.1
              have hdn : d < n' := by omega
              have hdn2 : d < n := by omega
              have v1 := hM.rl.cell hjl
              have v2 := hM.rl.cell (show nl < nl + 1 by omega)
              have v3 := hM.rl.frozen j
              rw [hd] at v1
              have hsw := Mem.swap (j := j) hM
              have HS : Hid _ := hsw
              have hltA : w.heap.size + 7 ≤ wA.heap.size := hM.gr.le
              have Hd : Hid (upd lf nl k j = d) := hd
              clear hM hI hdr hsw hd hbel
              go_upto_region 39 with fail
              obtain ⟨wB, hwB⟩ : ∃ wB, wB = wA.setCell ⟨w.heap.size + 6, j, none⟩ (.int .i32 (upd lf nl k nl)) := ⟨_, rfl⟩
              rw [← hwB] at HS ⊢
              have hRB := HS.out.2.1
              obtain ⟨z, hz⟩ : ∃ z, z = updE f k (S i 0) (S i 1) (S i 2) (S i 3) d 3 := ⟨_, rfl⟩
              have hxd := hRB.2.2.2.1.cell hdn2
              rw [(HI.out.2 d hdn).2.2.2, ← hz] at hxd
              have HGd : Hid _ := (show Graph wB w.heap.size (w.heap.size + 7) lv' n' _ s' by rw [hn']; exact HS.out.1).drew
              have HoB : Hid (∀ q, lv'.ownBlock = some q → w.heap.size + 7 ≤ q) := fun q hq => (HS.out.1.ents.lt q hq).1
              have HbB : Hid (Below w.heap.size w wB) := HMA.out.2.trans HS.out.2.2
              have HRB : Hid _ := hRB
              have Hz : Hid _ := hz
              clear hRB hwB v1 v2 v3 hz hq4
              go_cut [188] (fun v wc => v = .bool false ∧ Graph wc w.heap.size (w.heap.size + 7) lv' n' (updN (updE f k (S i 0) (S i 1) (S i 2) (S i 3)) d s') d ∧ (Row wc (w.heap.size + 1) n n (upd hc k (S i 0)) ∧ Row wc (w.heap.size + 2) n n (upd ht k (S i 1)) ∧ Row wc (w.heap.size + 3) n n (upd hm k (S i 2)) ∧ Row wc (w.heap.size + 4) n n (upd hx k (S i 3)) ∧ Row wc (w.heap.size + 5) n nf' ff ∧ Row wc (w.heap.size + 6) n nl (upd (upd lf nl k) j (upd lf nl k nl))) ∧ Below w.heap.size w wc)
              case first =>
                go_region_with (go_at_call 12; refine (zzunlink _ w.heap.size (w.heap.size + 7) lv' n' _ s' HGd d hdn (by omega)).mono ?_; rintro e w5 ⟨rfl, hG5, hoff5⟩; have hoffB : Off wB w5 w.heap.size lv'.ownBlock := ⟨hoff5.os, hoff5.tape, hoff5.output, hoff5.size, hoff5.block⟩; have hR5 := rows_off HRB hoffB HoB; have HbB5 : Hid (Below w.heap.size w w5) := Below.trans HbB (hoffB.below (Nat.le_refl _) (Nat.le_of_lt (Graph.head HGd).lt) (fun q hq => by have := HoB q hq; omega)); have x5 := hR5.2.2.2.1.cell hdn2; rw [(HI.out.2 d hdn).2.2.2, ← Hz.out] at x5; rw [← Hz.out]; have HR5 : Hid _ := hR5; have HG5 : Hid _ := hG5; clear hR5 hG5 hoff5 hoffB)
                all_goals (go_wp2; go_meet; exact ⟨rfl, HG5.out, HR5.out, HbB5.out⟩)
              case rest =>
                obtain ⟨rfl, hGc, hRc, hbc⟩ := hcut
                obtain ⟨wC, rfl⟩ : ∃ wC : World, wC = wc := ⟨_, rfl⟩
                have hsp := HI.out.1.sp
                have HIf := HI.out.1.free j d hjl Hd.out.symm
                have HMf := HI.out.2.free d s'
                have x4 := hRc.2.2.2.1.cell hdn2
                have x4f := hRc.2.2.2.1.frozen d
                have xf : ∀ m, m < nf' → wC.cell? ⟨w.heap.size + 5, m, none⟩ = some (.int .i32 (ff m)) := fun m hm => hRc.2.2.2.2.1.cell hm
                have HC : Hid _ := And.intro hGc (And.intro hRc hbc)
                have HE : Hid _ := And.intro HIf HMf
                have Hsp : Hid _ := hsp
                have Hxf : Hid _ := xf
                clear hGc hRc hbc HIf HMf hsp xf hxd HGd HoB HbB HRB Hz HS
                go_upto_if 191 with fail
                go_cut [9, 11, 22] (fun v9 v11 v wc => v9 = .slice (some ⟨w.heap.size + 5, 0, none⟩) nf' n ∧ v11 = .int .i32 n' ∧ v = .int .i32 s' ∧ wC = wc)
                case first =>
                  cases nf' with
                  | zero =>
                    have hs1 : s' = -1 := Hsp.out
                    go_wp2
                    go_meet
                    case rel => exact ⟨rfl, by rw [hn']; go_num, by rw [hs1], rfl⟩
                  | succ m =>
                    have hs1 : s' = ff m := Hsp.out
                    have xm := Hxf.out m (by omega)
                    go_wp2
                    go_meet
                    case rel => exact ⟨rfl, by rw [hn']; go_num, by rw [hs1], rfl⟩
                case rest =>
                  obtain ⟨rfl, rfl, rfl, rfl⟩ := hcut
                  obtain ⟨i0, hi, hz0, hz1, hz2⟩ := info_parts Try.info21
                  obtain ⟨xs, hox, hxx⟩ := (HC.out.2.1.2.2.2.2.1.far (a := ⟨w.heap.size + 4, d, none⟩) (by simp) (.int .i32 s'))
                  have Hox : Hid _ := hox
                  have Hxx : Hid _ := hxx
                  have hnf1 : nf' + 1 ≤ n := by omega
                  clear hox hxx
                  go_wp2_with (at_builtin; refine wpList_append_fits _ rfl (.tmp 202) (.tmp 204) 26 rfl (w.heap.size + 5) 21 i0 1 Try.underlying26 hi hz1 (w.heap.size + 5) nf' n xs rfl (World.ownsRow.alloc Hox _) ⟨wC.heap.size, 0, none⟩ 1 1 [.int .i32 d] rfl rfl ?c1 ?c2 ?c3 ?_)
                  case c1 => exact new_one_at (by simp)
                  case c2 => exact one_cell
                  case c3 => omega
                  intro w6 hown6 hgrow6
                  have HP := Mem.pushf (by rw [← hn']; exact HC.out.1) HC.out.2.1 (by have := Hox.out.1; omega) Hxx.out hown6 hgrow6
                  have HF : Hid _ := HP
                  clear HP hown6 hgrow6 x4 x4f
                  go_wp2
                  go_roundg (gk - 1)
                  case measure => omega
                  case rel => exact ⟨i + 1, nf' + 1, nl, _, _, _, _, _, _, _, _, _, by omega, rfl, rfl, by go_num, by go_num, by omega, HF.out.1, HE.out.1, by rw [show nf' + 1 + nl = n' by omega]; exact HE.out.2, HC.out.2.2.trans HF.out.2⟩
            · have hno : S i 4 < 0 ∨ (nl : Int) + 1 ≤ S i 4 := by omega
              clear hM hI hbel hfree
              rcases hno with hno | hno
              · go_wp2
                go_roundg (gk - 1)
                case measure => omega
                case rel => exact ⟨i + 1, nf', nl + 1, _, _, _, _, _, _, _, _, _, by omega, rfl, rfl, by go_num, by go_num, by omega, HMA.out.1, HI.out.1, by rw [← hn']; exact HI.out.2, HMA.out.2⟩
              · have hn0 : 0 ≤ S i 4 := by omega
                go_wp2
                go_roundg (gk - 1)
                case measure => omega
                case rel => exact ⟨i + 1, nf', nl + 1, _, _, _, _, _, _, _, _, _, by omega, rfl, rfl, by go_num, by go_num, by omega, HMA.out.1, HI.out.1, by rw [← hn']; exact HI.out.2, HMA.out.2⟩
      · obtain rfl : i = n := by omega
        obtain ⟨wE, rfl⟩ : ∃ wE : World, wE = wr := ⟨_, rfl⟩
        have HM : Hid (Mem wE w.heap.size i nf nl ff lf lv f s hc ht hm hx ∧ Mir (nf + nl) f hc ht hm hx ∧ Below w.heap.size w wE) := ⟨hM, hmir, hbel⟩
        clear hM hI hmir hbel hp
        go_wp2
        go_loopg [23] (nf + nl) (fun k v wx => ∃ j : Nat, k + j = nf + nl ∧ v = .int .i32 j ∧ Below wE.heap.size wE wx)
        case atStart => exact ⟨0, by omega, rfl, Below.refl _ _⟩
        case round =>
          obtain ⟨j, hkj, rfl, hbx⟩ := hrel
          by_cases hlt2 : j < nf + nl
          · have hj2 : j < i := by omega
            have hmj := HM.out.2.1 j hlt2
            have HBX : Hid _ := hbx
            clear hbx
            go_wp2_with fail
            refine (linkAt _ _ _ _ _ _ _ (HM.out.1.gr.later HBX) j hlt2 (by omega)).mono ?_
            rintro e w2 ⟨rfl, hb2⟩
            have HB2 : Below wE.heap.size wE w2 := Below.trans HBX (hb2.mono (Below.size HBX))
            have z1 := (HM.out.1.rc.later HB2).cell hj2
            have z2 := (HM.out.1.rt.later HB2).cell hj2
            have z3 := (HM.out.1.rm.later HB2).cell hj2
            have z4 := (HM.out.1.rx.later HB2).cell hj2
            rw [hmj.1] at z1
            rw [hmj.2.1] at z2
            rw [hmj.2.2.1] at z3
            rw [hmj.2.2.2] at z4
            have HB2' : Hid _ := HB2
            clear HB2 hb2 hmj
            go_wp2
            go_roundg (gk - 1)
            case measure => omega
            case rel => exact ⟨j + 1, by omega, by go_num, HB2'.out⟩
          · have HBX : Hid _ := hbx
            clear hbx
            go_wp2
            go_ret
            exact ⟨rfl, HM.out.2.2.trans (Below.mono HBX (HM.out.2.2.size))⟩
end Go.Proofs.Qxb6614451a
