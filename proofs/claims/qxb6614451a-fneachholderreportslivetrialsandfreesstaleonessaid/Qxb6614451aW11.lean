/- The walk of eachHolder. -/
import Derived.Test.Qxb6614451aW10
namespace Go.Proofs.Qxb6614451a
open Go.RowKit

theorem st1_facts (T : Nat → Int) (h : Nat) (fr pu re : Bool) (s : St) : (st1 T h fr pu re s).kept = s.kept ∧ (st1 T h fr pu re s).spare = s.spare ∧ (st1 T h fr pu re s).ex = s.ex ∧ (st1 T h fr pu re s).last = s.last ∧ (st1 T h fr pu re s).head = s.head := by
  unfold st1; split <;> exact ⟨rfl, rfl, rfl, rfl, rfl⟩
theorem st2_facts (T : Nat → Int) (ho hoT : Int) (s : St) : (st2 T ho hoT s).kept = s.kept ∧ (st2 T ho hoT s).spare = s.spare ∧ (st2 T ho hoT s).ex = s.ex ∧ (st2 T ho hoT s).last = s.last ∧ (st2 T ho hoT s).head = s.head := by
  unfold st2; split <;> exact ⟨rfl, rfl, rfl, rfl, rfl⟩
theorem st2_nw {T : Nat → Int} {ho hoT : Int} {s : St} (h : s.nw ≤ 1) : (st2 T ho hoT s).nw ≤ 2 := by
  unfold st2
  split
  · show s.nw + 1 ≤ 2; omega
  · omega
theorem runs_nw (T : Nat → Int) (f : Nat → Nat → Int) (seq : Nat → Int) (s : St) : ∀ k, (runs T f seq s k).nw ≤ s.nw + k
  | 0 => Nat.le_refl _
  | k + 1 => by
    have ih := runs_nw T f seq s k
    show (stp T f (seq k).toNat (runs T f seq s k)).nw ≤ _
    unfold stp
    split
    · show (runs T f seq s k).nw + 1 ≤ _; omega
    · show (runs T f seq s k).nw ≤ _; omega
theorem at_cases (bm bL h : Nat) (s : St) : ∃ pb po, atOf bm bL h s = ⟨pb, po, none⟩ ∧ (s.kept = false ∧ pb = bm ∧ po = h * 11 + 5 ∨ s.kept = true ∧ pb = bL ∧ po = s.last * 4 + 3) := by
  cases hk : s.kept with
  | false => exact ⟨bm, h * 11 + 5, by simp [atOf, hk], .inl ⟨rfl, rfl, rfl⟩⟩
  | true => exact ⟨bL, s.last * 4 + 3, by simp [atOf, hk], .inr ⟨rfl, rfl, rfl⟩⟩
theorem Mid.atCell {w wr : World} {g bp bf bm bL n nl m h : Nat} {T : Nat → Int} {fr pu re : Bool} {ho hoT : Int} {f : Nat → Nat → Int} {seq : Nat → Int} {bv k : Nat} {s : St} (q : Mid w wr g bp bf bm bL n nl h T fr pu re ho hoT f seq bv k s)
    (hc : Chain f n nl m seq) (hs : StOk f m seq k s) (hk : k ≤ m) : wr.cell? (atOf bm bL h s) = some (.int .i32 (seq k)) := by
  cases hkp : s.kept with
  | false =>
    have := q.gr.mem.2.2.1
    simpa [atOf, hkp, headOf] using this
  | true =>
    obtain ⟨a, ha, hl⟩ := hs.old hkp
    have hr := hc.rng a (by omega)
    have := q.gr.l (i := s.last) (j := 3) (by omega) (by omega)
    simpa [atOf, hkp, real] using this
theorem drewN_heap (w : World) : ∀ k, (w.drewN k).heap = w.heap
  | 0 => rfl
  | k + 1 => drewN_heap w k
theorem stp_live {T : Nat → Int} {f : Nat → Nat → Int} {x : Nat} {s : St} (h : f x 1 = T (f x 0).toNat) : (stp T f x s).nw = s.nw + 1 ∧ (stp T f x s).wf = upd s.wf s.nw (f x 0) ∧ (stp T f x s).spare = s.spare ∧ (stp T f x s).kept = true ∧ (stp T f x s).last = x := by
  unfold stp; rw [if_pos h]; exact ⟨rfl, rfl, rfl, rfl, rfl⟩
theorem stp_stale {T : Nat → Int} {f : Nat → Nat → Int} {x : Nat} {s : St} (h : ¬ f x 1 = T (f x 0).toNat) : (stp T f x s).kept = s.kept ∧ (stp T f x s).last = s.last := by
  unfold stp; rw [if_neg h]; exact ⟨rfl, rfl⟩
theorem real_congr {f : Nat → Nat → Int} {seq : Nat → Int} {k : Nat} {s s' : St} (h : s'.kept = s.kept ∧ s'.spare = s.spare ∧ s'.ex = s.ex ∧ s'.last = s.last ∧ s'.head = s.head) : headOf seq k s' = headOf seq k s ∧ real f seq k s' = real f seq k s := by
  obtain ⟨h1, h2, h3, h4, h5⟩ := h
  refine ⟨by simp [headOf, h1, h5], ?_⟩
  funext i j
  simp [real, h1, h3, h4]

set_option maxRecDepth 8000 in
set_option maxHeartbeats 2000000 in
theorem eachHolder5 (w : World) (g bp bf bm bL n nl m h : Nat) (T : Nat → Int) (fr pu re : Bool) (ho hoT : Int) (f : Nat → Nat → Int) (seq : Nat → Int) (bv : Nat) (s : St)
    (hM : Mid w w g bp bf bm bL n nl h T fr pu re ho hoT f seq bv 0 s) (hc : Chain f n nl m seq) (hs : StOk f m seq 0 s) (hkp : s.kept = false) (hho : hoT ≠ 0 → 0 ≤ ho ∧ ho < n) (hsz : n ≤ 65536 ∧ nl ≤ 65536 ∧ m ≤ nl) (hnw : s.nw = 0) :
    Calls Try.prog 29 #[.pointer (some ⟨g, 0, none⟩), .int .i32 h, .func (.func 30) #[] #[.pointer (some ⟨bv, 0, none⟩)]] w fun e w' => e = .returned (.tuple #[]) ∧ Mid w w' g bp bf bm bL n nl h T fr pu re ho hoT f seq bv m (runs T f seq (st2 T ho hoT (st1 T h fr pu re s)) m) := by
  have HM : Hid _ := hM
  obtain ⟨g0, g6, g12, g13, gf⟩ := hM.gr.g0
  obtain ⟨p0, p1⟩ := hM.gr.p0
  obtain ⟨m3, m4, m5, m8, m9, mf⟩ := hM.gr.mem
  have hn := hM.gr.hn
  have mt := hM.gr.t hn
  clear hM
  go_enter Try.func29, Try.ntmps29
  go_upto_region 1 with fail
  go_cut [45] (fun v wc => v = .bool (c1 T h fr pu re) ∧ w = wc)
  case first =>
    by_cases hT : 0 < T h <;> cases pu <;> cases re <;> cases fr <;> (go_wp2; go_meet; exact ⟨by simp [c1, hT], rfl⟩)
  case rest =>
    obtain ⟨rfl, rfl⟩ := hcut
    go_upto_if 45 with fail
    go_cut [48] (fun v wc => Mid w wc g bp bf bm bL n nl h T fr pu re ho hoT f seq bv 0 (st1 T h fr pu re s))
    case first =>
      cases hq : c1 T h fr pu re with
      | true =>
        go_wp2_with fail
        obtain ⟨v, hv⟩ := HM.out.got
        refine (closure30 w bv (bv + 1) s.nw s.wf v hv (by omega) _).mono ?_
        rintro e w1 ⟨rfl, ⟨v', hv'⟩, hoff⟩
        have HP : Hid _ := HM.out.call hv (s' := st1 T h fr pu re s) (k' := 0) (by simp only [st1, hq, if_true]; exact hv') hoff (real_congr (f := f) (st1_facts T h fr pu re s)).1 (real_congr (st1_facts T h fr pu re s)).2 (st1_facts T h fr pu re s).2.1
        clear hv hv' hoff
        go_wp2
        go_meet
        case rel => exact HP.out
      | false =>
        go_wp2
        go_meet
        case rel => simp only [st1, hq]; exact HM.out
    case rest =>
      obtain ⟨wA, rfl⟩ : ∃ wA : World, wA = wc := ⟨_, rfl⟩
      clear g0 g6 g12 g13 gf p0 p1 m3 m4 m5 m8 m9 mf mt HM
      have HM : Hid _ := hcut
      obtain ⟨g0, g6, g12, g13, gf⟩ := hcut.gr.g0
      obtain ⟨m3, m4, m5, m8, m9, mf⟩ := hcut.gr.mem
      have mt : ∀ q : Nat, q < n → wA.cell? ⟨bm, q * 11 + 1, none⟩ = some (.int .i32 (T q)) := fun q hq => hcut.gr.t hq
      have Hmt : Hid _ := mt
      clear hcut mt m8 m9 g0 g12 g13 gf mf m5
      obtain ⟨st, hst⟩ : ∃ st, st = st1 T h fr pu re s := ⟨_, rfl⟩
      rw [← hst] at HM
      have hnw1 : st.nw ≤ 1 := by rw [hst]; unfold st1; split <;> simp [hnw]
      have hkp1 : st.kept = false := by rw [hst, (st1_facts T h fr pu re s).1]; exact hkp
      have hs1 : StOk f m seq 0 st := by
        rw [hst]
        exact ⟨fun e => absurd e (by rw [(st1_facts T h fr pu re s).1, hkp]; simp), fun a ha hb => by rw [(st1_facts T h fr pu re s).2.2.1]; exact hs.new a ha hb⟩
      have Hst : Hid _ := hst
      clear hst hs hnw hkp
      go_upto_region 3 with fail
      go_cut [71] (fun v wc => v = .bool (c2 T ho hoT) ∧ Below wA.heap.size wA wc)
      case first =>
        by_cases hz : hoT = 0
        · subst hz
          go_quiet (fail)
          go_wp2
          go_meet
          case rel => exact ⟨by simp [c2], below_drewN _⟩
        · obtain ⟨q, rfl⟩ := Int.eq_ofNat_of_zero_le (hho hz).1
          have hqn : q < n := by have := (hho hz).2; omega
          have mq := Hmt.out q hqn
          by_cases he : hoT = T q
          · subst he
            go_quiet (fail)
            go_wp2
            go_meet
            case rel => exact ⟨by simp [c2, hz], below_drewN _⟩
          · go_quiet (fail)
            go_wp2
            go_meet
            case rel => exact ⟨by simp [c2, hz, he], below_drewN _⟩
      case rest =>
        obtain ⟨rfl, hb1⟩ := hcut
        have HM1 : Hid _ := HM.out.later hb1
        clear HM Hmt g6 m3 m4
        obtain ⟨wB, rfl⟩ : ∃ wB : World, wB = wc := ⟨_, rfl⟩
        have m3 := HM1.out.gr.mem.1
        go_upto_if 71 with fail
        go_cut [77] (fun v wc => Mid w wc g bp bf bm bL n nl h T fr pu re ho hoT f seq bv 0 (st2 T ho hoT st))
        case first =>
          cases hq : c2 T ho hoT with
          | true =>
            go_wp2_with fail
            obtain ⟨v, hv⟩ := HM1.out.got
            refine (closure30 wB bv (bv + 1) st.nw st.wf v hv (by omega) _).mono ?_
            rintro e w1 ⟨rfl, ⟨v', hv'⟩, hoff⟩
            have HP : Hid _ := HM1.out.call hv (s' := st2 T ho hoT st) (k' := 0) (by simp only [st2, hq, if_true]; exact hv') hoff (real_congr (f := f) (st2_facts T ho hoT st)).1 (real_congr (st2_facts T ho hoT st)).2 (st2_facts T ho hoT st).2.1
            clear hv hv' hoff
            go_wp2
            go_meet
            case rel => exact HP.out
          | false =>
            go_wp2
            go_meet
            case rel => simp only [st2, hq]; exact HM1.out
        case rest =>
          clear HM1 m3
          obtain ⟨wC, rfl⟩ : ∃ wC : World, wC = wc := ⟨_, rfl⟩
          obtain ⟨su, hsu⟩ : ∃ su, su = st2 T ho hoT st := ⟨_, rfl⟩
          rw [← hsu] at hcut
          have hnw2 : su.nw ≤ 2 := by rw [hsu]; exact st2_nw hnw1
          have hs2 : StOk f m seq 0 su := by
            rw [hsu]
            exact ⟨fun e => absurd e (by rw [(st2_facts T ho hoT st).1, hkp1]; simp), fun a ha hb => by rw [(st2_facts T ho hoT st).2.2.1]; exact hs1.new a ha hb⟩
          have hkp2 : su.kept = false := by rw [hsu, (st2_facts T ho hoT st).1]; exact hkp1
          have HC : Hid _ := hcut
          have Hsu : Hid (su = st2 T ho hoT (st1 T h fr pu re s)) := by rw [hsu, Hst.out]; rfl
          clear hsu hcut hs1 hkp1 hnw1 Hst hho hb1
          go_wp2
          go_loopg [7] m (fun k v7 wr => ∃ j : Nat, k + j = m ∧ v7 = .pointer (some (atOf bm bL h (runs T f seq su j))) ∧ Mid w wr g bp bf bm bL n nl h T fr pu re ho hoT f seq bv j (runs T f seq su j))
          case atStart => exact ⟨0, by omega, by simp [atOf, runs, hkp2], HC.out⟩
          case round =>
            obtain ⟨j, hkj, rfl, hmid⟩ := hrel
            have hst := StOk.runs (T := T) hc hs2 j (by omega)
            have hnwj := runs_nw T f seq su j
            obtain ⟨sj, hsj⟩ : ∃ sj, sj = runs T f seq su j := ⟨_, rfl⟩
            rw [← hsj] at hmid hst hnwj ⊢
            have HMj : Hid _ := hmid
            have Hsj : Hid _ := hsj
            have hat := hmid.atCell hc hst (by omega)
            obtain ⟨pb, po, hpo, hpc⟩ := at_cases bm bL h sj
            rw [hpo] at hat ⊢
            have Hpo : Hid _ := hpo
            have Hpc : Hid _ := hpc
            have hpl : pb < wr.heap.size := World.block_lt_of_cell? wr _ hat
            have g6 := hmid.gr.g0.2.1
            have g12 := hmid.gr.g0.2.2.1
            have hlts := hmid.gr.lts
            clear hmid hsj hs2 hkp2 HC hpo hpc
            by_cases hjm : j < m
            · have hr := hc.rng j hjm
              have hcr := hc.crg j hjm
              obtain ⟨x, hx⟩ := Int.eq_ofNat_of_zero_le hr.1
              have hxn : x < nl := by omega
              rw [hx] at hat
              have hxt : (seq j).toNat = x := by omega
              rw [hxt] at hcr
              obtain ⟨c, hcx⟩ := Int.eq_ofNat_of_zero_le hcr.1
              have hcn : c < n := by omega
              have e0 : wr.cell? ⟨bL, x * 4, none⟩ = some (.int .i32 (f x 0)) := HMj.out.gr.l hxn (j := 0) (by omega)
              have e1 : wr.cell? ⟨bL, x * 4 + 1, none⟩ = some (.int .i32 (f x 1)) := HMj.out.gr.l hxn (j := 1) (by omega)
              have e2 : wr.cell? ⟨bL, x * 4 + 2, none⟩ = some (.int .i32 (f x 2)) := HMj.out.gr.l hxn (j := 2) (by omega)
              have e3 := HMj.out.gr.l hxn (j := 3) (by omega)
              rw [hcx] at e0
              have mt := HMj.out.gr.t hcn
              have Hx : Hid (seq j = x ∧ (seq j).toNat = x ∧ f x 0 = c) := ⟨hx, hxt, hcx⟩
              clear hx hxt hcx hr hcr
              go_wp2
              go_region
              go_wp2
              go_quiet (fail)
              obtain ⟨wD, hwD⟩ : ∃ wD, wD = (wr.alloc (.cells #[.int .i32 c, .int .i32 (f x 1), .int .i32 (f x 2), .int .i32 (real f seq j sj x 3)] 47)).drew.drewN nq := ⟨_, rfl⟩
              rw [← hwD]
              have hbD : Below wr.heap.size wr wD := by rw [hwD]; exact (((Below.refl _ _).alloc (Nat.le_refl _) _).drew).trans (below_drewN _)
              have hbx : wD.heap[wr.heap.size]? = some (.cells #[.int .i32 c, .int .i32 (f x 1), .int .i32 (f x 2), .int .i32 (real f seq j sj x 3)] 47 (0, 0)) := by rw [hwD, drewN_heap]; exact heap_alloc_new wr _
              have HMD : Hid _ := HMj.out.later hbD
              have l0 : wD.cell? ⟨wr.heap.size, 0, none⟩ = some (.int .i32 c) := cellC hbx 0
              have hatD := (hbD.cell (p := ⟨pb, po, none⟩) hpl).trans hat
              have g12D := HMD.out.gr.g0.2.2.1
              clear hwD hbD hbx HMj hat e0 e1 e2 e3 mt g6 g12
              by_cases hlive : f x 1 = T c
              · go_wp2_with fail
                obtain ⟨v, hv⟩ := HMD.out.got
                refine (closure30 wD bv (bv + 1) sj.nw sj.wf v hv (by omega) _).mono ?_
                rintro e w5 ⟨rfl, ⟨v', hv'⟩, hoff⟩
                obtain ⟨hx1, hx2, hx3⟩ := Hx.out
                have hl2 : f (seq j).toNat 1 = T (f (seq j).toNat 0).toNat := by rw [hx2, hx3, Int.toNat_natCast]; exact hlive
                have hsl := stp_live (s := sj) hl2
                have hrl := real_live hc hst hjm hl2
                have hnew := HMD.out.call hv (s' := stp T f (seq j).toNat sj) (k' := j + 1) (by rw [hsl.1, hsl.2.1, hx2, hx3]; exact hv') hoff hrl.2 hrl.1 hsl.2.2.1
                have hpbv : pb < bv := by rcases Hpc.out with ⟨_, e, _⟩ | ⟨_, e, _⟩ <;> rw [e]; exact HMD.out.lts.2.2.2.1; exact HMD.out.lts.2.2.2.2
                have hat5 : w5.cell? ⟨pb, po, none⟩ = some (.int .i32 x) := (World.cell?_of_block (a := ⟨pb, po, none⟩) (hoff.block pb (Nat.lt_of_lt_of_le hpbv (Nat.le_of_lt hv.lts.1)) (by omega) (fun e => by have := hv.lts.2 pb e.symm; omega))).trans hatD
                have g12E := hnew.gr.g0.2.2.1
                have HN : Hid (Mid w w5 g bp bf bm bL n nl h T fr pu re ho hoT f seq bv (j + 1) (runs T f seq su (j + 1)) ∧ atOf bm bL h (runs T f seq su (j + 1)) = ⟨bL, x * 4 + 3, none⟩) := by
                  have e : runs T f seq su (j + 1) = stp T f (seq j).toNat sj := by rw [Hsj.out]; rfl
                  show _ ∧ _
                  rw [e]
                  exact ⟨hnew, by unfold atOf; rw [hsl.2.2.2.1, hsl.2.2.2.2, hx2]; rfl⟩
                clear hv hv' hoff hnew hrl hsl hl2 hx1 hx2 hx3 hatD g12D l0 hpbv
                go_wp2
                go_quiet (fail)
                go_wp2
                go_roundg (gk - 1)
                case measure => omega
                case rel => exact ⟨j + 1, by omega, by rw [HN.out.2], HN.out.1.later (below_drewN _)⟩
              · go_wp2_with fail
                obtain ⟨hx1, hx2, hx3⟩ := Hx.out
                have hl2 : ¬ f (seq j).toNat 1 = T (f (seq j).toNat 0).toNat := by rw [hx2, hx3, Int.toNat_natCast]; exact hlive
                have hsl := stp_stale (s := sj) hl2
                have hU := HMD.out.unlinked hc hst hjm hl2
                have hcur := (real_cur hc hst hjm).2
                rw [hx2] at hU hcur
                rw [Hpo.out] at hU
                have hata : atOf bm bL h (runs T f seq su (j + 1)) = ⟨pb, po, none⟩ := by
                  have e : runs T f seq su (j + 1) = stp T f (seq j).toNat sj := by rw [Hsj.out]; rfl
                  rw [e, ← Hpo.out]
                  simp [atOf, hsl.1, hsl.2]
                have e : runs T f seq su (j + 1) = stp T f x sj := by rw [← hx2, Hsj.out]; rfl
                rw [← e] at hU
                have HU : Hid _ := hU
                have Hata : Hid _ := hata
                clear hU hata e hsl hl2 l0
                rcases Hpc.out with ⟨hk0, hp1, hp2⟩ | ⟨hk0, hp1, hp2⟩
                · rw [hp1, hp2] at HU ⊢
                  refine (unlink_head HMD.out.gr x hxn (by simp [headOf, hk0, hx1])).mono ?_
                  rintro e w5 ⟨⟨v, rfl⟩, hw5⟩
                  rw [← hw5] at HU
                  clear hw5 hatD g12D hcur hx1 hx2 hx3
                  go_wp2
                  go_roundg (gk - 1)
                  case measure => omega
                  case rel => exact ⟨j + 1, by omega, by rw [Hata.out, hp1, hp2], HU.out⟩
                · obtain ⟨a, ha, hla⟩ := hst.old hk0
                  have hra := hc.rng a (by omega)
                  rw [hp1, hp2] at HU ⊢
                  refine (unlink_last HMD.out.gr x hxn sj.last (by omega) (hcur hk0) (by simp [real, hk0, hx1])).mono ?_
                  rintro e w5 ⟨⟨v, rfl⟩, hw5⟩
                  rw [← hw5] at HU
                  clear hw5 hatD g12D hcur hx1 hx2 hx3
                  go_wp2
                  go_roundg (gk - 1)
                  case measure => omega
                  case rel => exact ⟨j + 1, by omega, by rw [Hata.out, hp1, hp2], HU.out⟩
            · obtain rfl : j = m := by omega
              have hneg := hc.fin
              go_wp2
              refine bodyPost_end (results_none rfl _ _ _) rfl ⟨rfl, ?_⟩
              rw [← Hsu.out, ← Hsj.out]
              exact HMj.out
end Go.Proofs.Qxb6614451a
