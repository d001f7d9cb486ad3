/- The walk of the second law. -/
import Derived.Test.Qxb6614451aW5
namespace Go.Proofs.Qxb6614451a
open Go.RowKit

theorem linkAt_new4 (w : World) (g B : Nat) (lv : Value) (n : Nat) (f : Nat → Nat → Int) (s : Int) (k : Nat) (c t m x : Int) (h : Graph w g B lv n (updE f k c t m x) s) (hk : k < n) (h31 : n ≤ 2147483647) :
    Calls Try.prog 11 #[.pointer (some ⟨g, 0, none⟩), .int .i32 k] w fun e w' => e = .returned (.tuple #[.int .i32 c, .int .i32 t, .int .i32 m, .int .i32 x]) ∧ Below w.heap.size w w' := by
  have := linkAt w g B lv n _ s h k hk h31
  simpa [updE] using this

theorem Mem4.off {w w1 : World} {H n nl cnt : Nat} {lf : Nat → Int} {lv : Value} {f : Nat → Nat → Int} {s : Int} {bl : Nat → Bool} {hx : Nat → Int} (h : Mem4 w H n nl lf lv cnt f s bl hx) (o : Obj) (hf : Off (w.alloc o) w1 H lv.ownBlock) :
    (RowB w1 (H + 1) n bl ∧ Row w1 (H + 2) n n hx ∧ Row w1 (H + 3) n nl lf) ∧ w1.heap[w.heap.size]? = some o ∧ w.heap.size < w1.heap.size ∧ Below H w w1 := by
  have hb := h.gr.ents.lt
  have hl := h.gr.head.lt
  have hne : ∀ j, j < H + 4 → some j ≠ lv.ownBlock := fun j hj e => by have := (hb j e.symm).1; omega
  refine ⟨⟨(h.rb.alloc o).off hf (by omega) (hne _ (by omega)), (h.rx.alloc o).off hf (by omega) (hne _ (by omega)), (h.rl.alloc o).off hf (by omega) (hne _ (by omega))⟩, ?_, ?_, ?_⟩
  · rw [hf.block w.heap.size (by simp) (by omega) (fun e => by have := (hb _ e.symm).2; omega)]
    exact heap_alloc_new w o
  · have := hf.size; simp at this; omega
  · exact ((Below.refl H w).alloc (by omega) o).trans (hf.below (Nat.le_refl _) (by simp; omega) (fun k e => by have := (hb k e).1; omega))

/-- The live mark and the next are stored, the entry is appended to the live ones. -/
theorem Mem4.push {w w' : World} {H n nl cnt : Nat} {lf : Nat → Int} {lv : Value} {f : Nat → Nat → Int} {s : Int} {bl : Nat → Bool} {hx : Nat → Int} {xs : List Value} {k : Nat} {x : Int} {o : Obj}
    (hG : Graph w H (H + 4) lv cnt f s) (h : RowB w (H + 1) n bl ∧ Row w (H + 2) n n hx)
    (hxl : xs.length = nl) (hxs : ∀ k, k < nl → xs[k]? = some (.int .i32 (lf k)))
    (hown : w'.ownsRow (H + 3) 21 1 (.slice (some ⟨H + 3, 0, none⟩) (nl + 1) n) (nl + 1) (xs ++ [.int .i32 k]))
    (hg : (((w.setCell ⟨H + 1, k, none⟩ (.bool true)).setCell ⟨H + 2, k, none⟩ (.int .i32 x)).alloc o).grownBy w' (some (H + 3))) :
    Mem4 w' H n (nl + 1) (upd lf nl k) lv cnt f s (updB bl k true) (upd hx k x) ∧ (∀ b, H + 3 < b → b < w.heap.size → w'.heap[b]? = w.heap[b]?) ∧ Below H w w' := by
  have hle := hG.le
  have hb : ∀ b, b ≠ H + 3 → b < w.heap.size → w'.heap[b]? = ((w.setCell ⟨H + 1, k, none⟩ (.bool true)).setCell ⟨H + 2, k, none⟩ (.int .i32 x)).heap[b]? := fun b h1 h2 =>
    (hg.block b (by simp; omega) (fun e => h1 (by simpa using e))).trans (heap_alloc_old _ o (by simpa using h2))
  have hb2 : ∀ b, b < H + 1 ∨ H + 3 < b → b < w.heap.size → w'.heap[b]? = w.heap[b]? := fun b h1 h2 => by
    rw [hb b (by omega) h2, heap_setCell_other _ _ _ _ (by simp; omega), heap_setCell_other _ _ _ _ (by simp; omega)]
  refine ⟨⟨(((hG.far (by simp) (by simp) _).far (by simp) (by simp) _).alloc o).grown hg (by omega) (by omega), ((h.1.set k true).far (by simp) _).same (hb _ (by omega) (by omega)), ((h.2.far (by simp) _).set k x).same (hb _ (by omega) (by omega)), Row.push hown hxl hxs⟩, fun b h1 h2 => hb2 b (.inr h1) h2, ?_⟩
  exact ⟨hg.os, hg.tape, hg.output, Nat.le_trans (by simp) hg.size, fun b h1 => hb2 b (.inl (by omega)) (by omega)⟩

/-- The live entry at place j gives way to the last, its mark is struck. -/
theorem Mem4.swap {w : World} {H n nl j d cnt : Nat} {lf : Nat → Int} {lv : Value} {f : Nat → Nat → Int} {s : Int} {bl : Nat → Bool} {hx : Nat → Int} (h : Mem4 w H n (nl + 1) lf lv cnt f s bl hx) :
    Mem4 ((w.setCell ⟨H + 3, j, none⟩ (.int .i32 (lf nl))).setCell ⟨H + 1, d, none⟩ (.bool false)) H n nl (upd lf j (lf nl)) lv cnt f s (updB bl d false) hx ∧ Below H w ((w.setCell ⟨H + 3, j, none⟩ (.int .i32 (lf nl))).setCell ⟨H + 1, d, none⟩ (.bool false)) :=
  ⟨⟨(h.gr.far (by simp) (by simp) _).far (by simp) (by simp) _, (h.rb.far (by simp) _).set d false, (h.rx.far (by simp) _).far (by simp) _, ((h.rl.set j (lf nl)).pop).far (by simp) _⟩, ((Below.refl _ _).setCell (by simp) _).setCell (by simp) _⟩

theorem Mem4.moved {w w1 : World} {H n nl cnt : Nat} {lf : Nat → Int} {lv : Value} {f f' : Nat → Nat → Int} {s s' : Int} {bl : Nat → Bool} {hx : Nat → Int} (h : Mem4 w H n nl lf lv cnt f s bl hx) (hG : Graph w1 H (H + 4) lv cnt f' s') (hf : Off w w1 H lv.ownBlock) :
    Mem4 w1 H n nl lf lv cnt f' s' bl hx ∧ Below H w w1 := by
  have hb := h.gr.ents.lt
  have hl := h.gr.head.lt
  have hne : ∀ j, j < H + 4 → some j ≠ lv.ownBlock := fun j hj e => by have := (hb j e.symm).1; omega
  exact ⟨⟨hG, h.rb.off hf (by omega) (hne _ (by omega)), h.rx.off hf (by omega) (hne _ (by omega)), h.rl.off hf (by omega) (hne _ (by omega))⟩, hf.below (Nat.le_refl _) (by omega) (fun k e => by have := (hb k e).1; omega)⟩

set_option maxRecDepth 8000 in
set_option maxHeartbeats 2000000 in
theorem law4_walk (a : Option Addr) (n cap : Nat) (S : Nat → Nat → Int) (w : World) (hn : n ≤ 9223372036854775807) (hp : StepsAt w a n S) :
    Calls Try.prog 4 #[.slice a n cap] w fun e w' => e = .returned (.bool true) ∧ Below w.heap.size w w' := by
  go_enter Try.func4, Try.ntmps4
  go_wp2_with fail
  refine (zzBytes13 a n cap w hn).mono ?_
  rintro e w' ⟨⟨r, rfl⟩, rfl⟩
  cases r with
  | false =>
    go_wp2
    go_ret; exact ⟨rfl, Below.refl _ _⟩
  | true =>
    go_wp2_with fail
    all_goals first | (go_ret; exact ⟨rfl, Below.refl _ _⟩) | skip
    refine (newGraph w).mono ?_
    rintro e w1 ⟨rfl, C, rfl, hC⟩
    have n1 : n ≤ 32768 := by omega
    have hC' : Hid (C.size = 23 ∧ C[12]? = some (.slice none 0 0) ∧ C[13]? = some (.int .i32 (-1))) := hC
    clear hC
    have hmb : ∀ w : World, (Instr.makeSlice 34 (.int .i64 (n : Int)) (.int .i64 (n : Int))).run Try.prog w = .ok (.slice (some ⟨w.heap.size, 0, none⟩) n n) (w.alloc (.cells (madeCells #[.bool false] (n * 1)) 4)) := make_cap (P := Try.prog) 34 4 _ 1 1 Try.underlying34 Try.info4 .i64 .i64 n n (Nat.le_refl _) (by omega) (by omega)
    have hmk : ∀ w : World, (Instr.makeSlice 26 (.int .i64 (n : Int)) (.int .i64 (n : Int))).run Try.prog w = .ok (.slice (some ⟨w.heap.size, 0, none⟩) n n) (w.alloc (.cells (madeCells #[.int .i32 0] (n * 1)) 21)) := make_cap (P := Try.prog) 26 21 _ 1 4 Try.underlying26 Try.info21 .i64 .i64 n n (Nat.le_refl _) (by omega) (by omega)
    have hmk0 : ∀ w : World, (Instr.makeSlice 26 (.int .i64 0) (.int .i64 (n : Int))).run Try.prog w = .ok (.slice (some ⟨w.heap.size, 0, none⟩) 0 n) (w.alloc (.cells (madeCells #[.int .i32 0] (n * 1)) 21)) := make_cap (P := Try.prog) 26 21 _ 1 4 Try.underlying26 Try.info21 .i64 .i64 0 n (by omega) (by omega) (by omega)
    go_wp2
    clear hmk hmk0 hmb
    go_loopg [7, 8, 9] n (fun k v7 v8 v9 wr => ∃ (i nl cnt : Nat) (lf : Nat → Int) (lv : Value) (f : Nat → Nat → Int) (s : Int) (bl : Nat → Bool) (hx : Nat → Int), k + i = n ∧ v7 = .slice (some ⟨w.heap.size + 3, 0, none⟩) nl n ∧ v8 = .int .i64 cnt ∧ v9 = .int .i64 i ∧ cnt ≤ i ∧ Mem4 wr w.heap.size n nl lf lv cnt f s bl hx ∧ Inv4 cnt s f nl lf bl hx n ∧ Below w.heap.size w wr)
    case atStart =>
      refine ⟨0, 0, 0, _, _, _, _, _, _, by omega, rfl, rfl, rfl, by omega, by have := mem4_start w C n (by unfold maxLen; omega) hC'; rw [Nat.mul_one] at this; exact this, Inv4.start _ _ _ _, ?_⟩
      have b0 : Below w.heap.size w (w.alloc (.cells C 64)) := (Below.refl _ _).alloc (Nat.le_refl _) _
      exact ((b0.alloc (by simp) _).alloc (by simp; omega) _).alloc (by simp; omega) _
    case round =>
      obtain ⟨i, nl, cnt, lf, lv, f, s, bl, hx, hk, rfl, rfl, rfl, hci, hM, hI, hbel⟩ := hrel
      by_cases hlt : i < n
      · have HM : Hid (Mem4 wr w.heap.size n nl lf lv cnt f s bl hx ∧ Inv4 cnt s f nl lf bl hx n ∧ Below w.heap.size w wr) := ⟨hM, hI, hbel⟩
        obtain ⟨b, off, rfl, hb, hst⟩ := hp (by omega)
        obtain ⟨c0, c1, c2, c3, c4, l4, u4⟩ := hst i hlt
        replace c0 := (hbel.cell (p := ⟨b, off + i * 5, none⟩) hb).trans c0
        replace c1 := (hbel.cell (p := ⟨b, off + i * 5 + 1, none⟩) hb).trans c1
        replace c2 := (hbel.cell (p := ⟨b, off + i * 5 + 2, none⟩) hb).trans c2
        replace c3 := (hbel.cell (p := ⟨b, off + i * 5 + 3, none⟩) hb).trans c3
        replace c4 := (hbel.cell (p := ⟨b, off + i * 5 + 4, none⟩) hb).trans c4
        have hHr : w.heap.size + 4 ≤ wr.heap.size := hM.gr.le
        have hlt' := hI.lt
        clear hM hI hbel hst hp
        go_wp2_with fail
        refine (zzlink _ w.heap.size (w.heap.size + 4) lv cnt f s (HM.out.1.gr.alloc _) hlt'.1 (by omega) _ _ _ _).mono ?_
        rintro e w1 ⟨k, n', s', lv', rfl, hG1, hoff, hres⟩
        obtain ⟨hkn, hkl, hp1, hp2, hnl1, hn'c, hI1⟩ := HM.out.2.1.link hres (S i 0) (S i 1) (S i 2) (S i 3)
        obtain ⟨⟨r1, r2, r3⟩, hbox, hsz, hb1⟩ := HM.out.1.off _ hoff
        have hbl : bl k = false := HM.out.2.1.lv k (by omega) hkl
        have z1 := r1.cell (show k < n by omega)
        rw [hbl] at z1
        have HM2 : Hid (Inv4 n' s' (updE f k (S i 0) (S i 1) (S i 2) (S i 3)) (nl + 1) (upd lf nl k) (updB bl k true) (upd hx k (S i 3)) n ∧ Below w.heap.size w w1) := ⟨hI1, HM.out.2.2.trans hb1⟩
        have n'1 : n' ≤ 32768 := by omega
        have hn'i : n' ≤ i + 1 := by omega
        have HG1 : Hid (Graph w1 w.heap.size (w.heap.size + 4) lv' n' (updE f k (S i 0) (S i 1) (S i 2) (S i 3)) s') := hG1
        have HR : Hid (RowB w1 (w.heap.size + 1) n bl ∧ Row w1 (w.heap.size + 2) n n hx ∧ Row w1 (w.heap.size + 3) n nl lf) := ⟨r1, r2, r3⟩
        have HB : Hid _ := hbox
        obtain ⟨q0, q1, q2, q3, q4⟩ := boxC hbox
        have Hp : Hid ((cnt < nl + 1 → n' = nl + 1) ∧ (nl + 1 ≤ cnt → n' = cnt)) := ⟨hp1, hp2⟩
        clear hI1 hb1 hres hoff hG1 HM r1 r2 r3 hbox hkl hbl hp1 hp2 c0 c1 c2 c3 c4
        go_upto_if 57 with fail
        go_cut [8] (fun v wc => v = .int .i64 n' ∧ w1 = wc)
        case first =>
          by_cases hpk : cnt < nl + 1
          · have e1 := Hp.out.1 hpk
            go_wp2
            go_meet
            case rel => exact ⟨by rw [e1]; go_num, rfl⟩
          · have e1 := Hp.out.2 (by omega)
            go_wp2
            go_meet
            case rel => exact ⟨by rw [e1], rfl⟩
        case rest =>
          obtain ⟨rfl, rfl⟩ := hcut
          go_wp2_with fail
          refine (linkCount _ _ _ _ _ _ _ HG1).mono ?_
          rintro e w2 ⟨rfl, rfl⟩
          go_wp2_with fail
          refine (linkAt_new4 _ _ _ _ _ _ _ k _ _ _ _ HG1 hkn (by omega)).mono ?_
          rintro e w2 ⟨rfl, hb2⟩
          have hG2 := HG1.out.later hb2
          have r1 := HR.out.1.later hb2
          have r2 := HR.out.2.1.later hb2
          have r3 := HR.out.2.2.later hb2
          have hkn2 : k < n := by omega
          have hnl : nl < n := by omega
          replace q0 := (hb2.cell (p := ⟨wr.heap.size, 0, none⟩) hsz).trans q0
          replace q1 := (hb2.cell (p := ⟨wr.heap.size, 1, none⟩) hsz).trans q1
          replace q2 := (hb2.cell (p := ⟨wr.heap.size, 2, none⟩) hsz).trans q2
          replace q3 := (hb2.cell (p := ⟨wr.heap.size, 3, none⟩) hsz).trans q3
          clear z1
          have z1 := r1.cell hkn2
          have z2 := r2.cell hkn2
          have y1 := r1.frozen k
          have y2 := r2.frozen k
          have hs2 : wr.heap.size < w2.heap.size := Nat.lt_of_lt_of_le hsz hb2.size
          have HB2 : Hid _ := (hb2.block wr.heap.size hsz).trans HB.out
          have HR2 : Hid (RowB w2 (w.heap.size + 1) n bl ∧ Row w2 (w.heap.size + 2) n n hx ∧ Row w2 (w.heap.size + 3) n nl lf) := ⟨r1, r2, r3⟩
          have HG2 : Hid _ := hG2
          have HM3 : Hid (Inv4 n' s' (updE f k (S i 0) (S i 1) (S i 2) (S i 3)) (nl + 1) (upd lf nl k) (updB bl k true) (upd hx k (S i 3)) n ∧ Below w.heap.size w w2) := ⟨HM2.out.1, HM2.out.2.trans (hb2.mono (by omega))⟩
          clear r1 r2 r3 hb2 hG2 HG1 HM2 HB HR
          go_upto_region 26 with fail
          go_cut [7] (fun v wc => v = .slice (some ⟨w.heap.size + 3, 0, none⟩) (nl + 1) n ∧ Mem4 wc w.heap.size n (nl + 1) (upd lf nl k) lv' n' (updE f k (S i 0) (S i 1) (S i 2) (S i 3)) s' (updB bl k true) (upd hx k (S i 3)) ∧ wc.heap[wr.heap.size]? = some (.cells #[.int .i32 (S i 0), .int .i32 (S i 1), .int .i32 (S i 2), .int .i32 (S i 3), .int .i32 (S i 4)] 28 (0, 0)) ∧ Below w.heap.size w wc)
          case first =>
            obtain ⟨i0, hi, hz0, hz1, hz2⟩ := info_parts Try.info21
            obtain ⟨xs, hox, hxx⟩ := (HR2.out.2.2.far (a := ⟨w.heap.size + 1, k, none⟩) (by simp) (.bool true)).far (a := ⟨w.heap.size + 2, k, none⟩) (by simp) (.int .i32 (S i 3))
            have Hox : Hid _ := hox
            have Hxx : Hid _ := hxx
            clear hox hxx q0 q1 q2 q3 q4 z1 z2 y1 y2
            go_wp2_with (at_builtin; refine wpList_append_fits _ rfl (.tmp 120) (.tmp 122) 26 rfl (w.heap.size + 3) 21 i0 1 Try.underlying26 hi hz1 (w.heap.size + 3) nl n xs rfl (World.ownsRow.alloc Hox _) ⟨w2.heap.size, 0, none⟩ 1 1 [.int .i32 k] rfl rfl ?c1 ?c2 ?c3 ?_)
            case c1 => exact new_one_at (by simp)
            case c2 => exact one_cell
            case c3 => omega
            intro w3 hown3 hgrow3
            have HP := Mem4.push HG2.out ⟨HR2.out.1, HR2.out.2.1⟩ (by have := Hox.out.1; omega) Hxx.out hown3 hgrow3
            have HF : Hid _ := And.intro HP.1 (And.intro ((HP.2.1 wr.heap.size (by omega) hs2).trans HB2.out) (HM3.out.2.trans HP.2.2))
            clear HP hown3 hgrow3
            go_wp2
            go_meet
            case rel => exact ⟨rfl, HF.out⟩
          case rest =>
            obtain ⟨rfl, hM, hbx, hbel⟩ := hcut
            obtain ⟨wA, rfl⟩ : ∃ wA : World, wA = wc := ⟨_, rfl⟩
            clear q0 q1 q2 q3 q4 z1 z2 y1 y2 HR2 HG2 HB2
            have hq4 := (boxC hbx).2.2.2.2
            have hI := HM3.out.1
            have HI : Hid _ := hI
            have HMA : Hid (Mem4 wA w.heap.size n (nl + 1) (upd lf nl k) lv' n' (updE f k (S i 0) (S i 1) (S i 2) (S i 3)) s' (updB bl k true) (upd hx k (S i 3)) ∧ Below w.heap.size w wA) := ⟨hM, hbel⟩
            clear HM3 hbx
            by_cases hfree : 0 ≤ S i 4 ∧ S i 4 < (nl : Int) + 1
            · obtain ⟨j, hj⟩ := Int.eq_ofNat_of_zero_le hfree.1
              rw [hj] at hq4 hfree l4 u4
              have hjl : j < nl + 1 := by omega
              have hdr : 0 ≤ upd lf nl k j ∧ upd lf nl k j < n' := by
                obtain ⟨nf, ff, e, h⟩ := hI.inv
                rw [e]; exact h.lr j hjl
              obtain ⟨d, hd⟩ := Int.eq_ofNat_of_zero_le hdr.1
              have hdn : d < n' := by omega
              have hdn2 : d < n := by omega
              have v1 := hM.rl.cell hjl
              have v2 := hM.rl.cell (show nl < nl + 1 by omega)
              have v3 := hM.rl.frozen j
              have v4 := hM.rb.cell hdn2
              have v5 := hM.rb.frozen d
              rw [hd] at v1
              have hsw := Mem4.swap (j := j) (d := d) hM
              have HS : Hid _ := hsw
              have hltA : w.heap.size + 4 ≤ wA.heap.size := hM.gr.le
              have Hd : Hid (upd lf nl k j = d) := hd
              clear hM hI hdr hsw hd hbel
              go_upto_region 33 with fail
              obtain ⟨wB, hwB⟩ : ∃ wB, wB = (wA.setCell ⟨w.heap.size + 3, j, none⟩ (.int .i32 (upd lf nl k nl))).setCell ⟨w.heap.size + 1, d, none⟩ (.bool false) := ⟨_, rfl⟩
              rw [← hwB] at HS
              rw [show (wA.setCell ⟨w.heap.size + 1 + 1 + 1, j, none⟩ (.int .i32 (upd lf nl k nl))).setCell ⟨w.heap.size + 1, d, none⟩ (.bool false) = wB from hwB.symm]
              obtain ⟨z, hz⟩ : ∃ z, z = updE f k (S i 0) (S i 1) (S i 2) (S i 3) d 3 := ⟨_, rfl⟩
              have hnx := HI.out.nx j hjl
              rw [Hd.out, Int.toNat_natCast, ← hz] at hnx
              have hxd := HS.out.1.rx.cell hdn2
              rw [hnx] at hxd
              have HGd : Hid (Graph wB.drew w.heap.size (w.heap.size + 4) lv' n' (updE f k (S i 0) (S i 1) (S i 2) (S i 3)) s') := HS.out.1.gr.drew
              have HIf := HI.out.free hjl Hd.out.symm
              have HIF : Hid _ := HIf
              have Hnx : Hid _ := hnx
              have Hz : Hid _ := hz
              have HbB : Hid (Below w.heap.size w wB) := HMA.out.2.trans HS.out.2
              clear HIf hnx hz hwB v1 v2 v3 v4 v5 hq4
              go_cut [166] (fun v wc => v = .bool false ∧ Mem4 wc w.heap.size n nl (upd (upd lf nl k) j (upd lf nl k nl)) lv' n' (updN (updE f k (S i 0) (S i 1) (S i 2) (S i 3)) d s') d (updB (updB bl k true) d false) (upd hx k (S i 3)) ∧ Below w.heap.size w wc)
              case first =>
                go_region_with (go_at_call 12; refine (zzunlink _ w.heap.size (w.heap.size + 4) lv' n' _ s' HGd d hdn (by omega)).mono ?_; rintro e w5 ⟨rfl, hG5, hoff5⟩; have hoffB : Off wB w5 w.heap.size lv'.ownBlock := ⟨hoff5.os, hoff5.tape, hoff5.output, hoff5.size, hoff5.block⟩; have HP := Mem4.moved HS.out.1 hG5 hoffB; have x5 := HP.1.rx.cell hdn2; rw [Hnx.out] at x5; rw [← Hz.out]; have HF : Hid _ := And.intro HP.1 (HbB.out.trans HP.2); clear HP hG5 hoff5 hoffB)
                all_goals (go_wp2; go_meet; exact ⟨rfl, HF.out⟩)
              case rest =>
                obtain ⟨rfl, hMc, hbc⟩ := hcut
                have HC : Hid _ := And.intro hMc hbc
                clear hMc hbc hxd HGd HbB Hz Hnx HS
                go_wp2
                go_roundg (gk - 1)
                case measure => omega
                case rel => exact ⟨i + 1, nl, n', _, _, _, _, _, _, by omega, rfl, rfl, by go_num, by omega, HC.out.1, HIF.out, HC.out.2⟩
            · have hno : S i 4 < 0 ∨ (nl : Int) + 1 ≤ S i 4 := by omega
              clear hM hI hbel hfree
              rcases hno with hno | hno
              · go_wp2
                go_roundg (gk - 1)
                case measure => omega
                case rel => exact ⟨i + 1, nl + 1, n', _, _, _, _, _, _, by omega, rfl, rfl, by go_num, by omega, HMA.out.1, HI.out, HMA.out.2⟩
              · have hn0 : 0 ≤ S i 4 := by omega
                go_wp2
                go_roundg (gk - 1)
                case measure => omega
                case rel => exact ⟨i + 1, nl + 1, n', _, _, _, _, _, _, by omega, rfl, rfl, by go_num, by omega, HMA.out.1, HI.out, HMA.out.2⟩
      · go_wp2
        go_ret
        exact ⟨rfl, hbel⟩
end Go.Proofs.Qxb6614451a
