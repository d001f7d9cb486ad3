/- The law reckons by itself. -/
import Derived.Test.Qxb6614451aW17
namespace Go.Proofs.Qxb6614451a
open Go.RowKit

set_option maxRecDepth 100000 in
set_option maxHeartbeats 8000000 in
theorem part50 {c10 c11 c12 c13 c14 c15 c16 c17 c18 c19 c20 c23 c25 c27 c28 c29 c30 c31 c35 c36 c37 c38 c39 c40 c41 c42 c43 c44 c45 c46 c47 c48 c49 c50 c51 c52 c53 c54 c55 c56 c57 c58 c59 c60 c61 c62 c63 c64 c65 c66 c67 c68 c69 c70 c71 c72 c73 c74 c75 c76 c77 c78 c79 c80 c81 c82 c83 c84 c85 c86 c87 c88 c89 c90 c91 c92 c93 c94 c95 c96 c97 c98 c99 c100 c101 c102 c103 c104 c105 c106 c107 c108 c109 c110 c111 c112 c113 c114 c115 c116 c117 c118 c119 c120 c121 c122 c123 c124 c125 c126 c127 c128 c129 c130 c131 c132 c133 c134 c135 c136 c137 c138 c139 c140 c141 c142 c143 c144 c145 c146 c147 c148 c149 c150 c151 c152 c153 c154 c155 c156 c157 c158 c159 c160 c161 c162 c163 c164 c165 c166 c167 c168 c169 c170 c171 c172 c173 c174 c175 c176 c177 c178 c179 c180 c181 c182 c183 c184 c185 c186 c187 c188 c189 c190 c191 c192 c193 c194 c195 c196 c197 c198 c199 c200 c201 c202 c203 c204 c205 c206 c207 c208 c209 c210 c211 c212 c213 c214 c215 c216 c217 c218 c219 c220 c221 c222 c223 c224 c225 c226 c227 c228 c229 c230 c231 c232 c233 c234 c235 c236 c237 c238 c239 c240 c241 c242 c243 c244 c245 c246 c247 c248 c249 c250 c251 c252 c253 c254 c255 c256 c257 c258 c259 c260 c261 c262 c263 c264 c265 c266 c267 c268 c269 c270 c271 c272 c273 c274 c275 c276 c277 c278 c279 c280 c281 c282 c283 c284 c285 c286 c287 c288 c289 c290 c291 c292 c293 c294 c295 c296 c297 c298 c299 c300 c301 c302 c303 c304 c305 c306 c307 c308 c309 c310 c311 c312 c313 c314 c315 c316 c317 c318 c319 c320 c321 c322 c323 c324 c325 c326 c327 c328 c329 c330 c331 c332 c333 c334 c335 c336 c337 c338 c339 c340 c341 c342 c343 c344 c345 c346 c347 c348 c349 c350 c351 c352 c353 c354 c355 c356 c357 c358 c359 c360 c361 c362 c363 c364 c365 c366 c367 c368 c369 c370 c371 c372 c373 c374 c375 c376 c377 c378 c379 c380 c381 c382 c383 c384 c385 c386 c387 c388 : Value} (bt offt : Nat) (n cap : Nat) (T : Nat → Int) (h : Nat) (pu re fr : Bool) (ho hoT hd : Int) (b : Option Addr) (nl cap2 : Nat) (f : Nat → Nat → Int) (sp : Int) (w : World) (m : Nat) (seq : Nat → Int) (wA wB wD wE wF wJ wK : World) (S : St) (n1 : n ≤ 65536) (nl1 : nl ≤ 65536) (hmn : m ≤ nl) (Hho : Hid (hoT ≠ 0 → 0 ≤ ho ∧ ho < n)) (Hq : Hid (LinksAt w b nl f)) (HpE : Hid (TriesAt wE (some ⟨bt, offt, none⟩) n T)) (HqE : Hid (LinksAt wE b nl f)) (HC : Hid (Chain f n nl m seq ∧ seq 0 = hd)) (HA : Hid (Row wA (w.heap.size + 1) nl m seq ∧ Below w.heap.size w wA)) (HE : Hid (G5 wE (wD.heap.size + 1) wD.heap.size wB.heap.size wA.heap.size wF.heap.size n nl h T fr pu re ho hoT hd f sp ∧ Below wD.heap.size wD wE)) (HE2 : Hid (Below w.heap.size w wE ∧ Below wA.heap.size wA wE)) (HZ : Hid (w.heap.size ≤ wA.heap.size ∧ wA.heap.size ≤ wF.heap.size ∧ wF.heap.size ≤ wD.heap.size)) (HS : Hid (sB T f h fr pu re ho hoT (seq m) sp = S)) (HSf : Hid (S.kept = false ∧ S.spare = sp ∧ S.ex = (fun i => f i 3) ∧ S.head = seq m ∧ S.nw ≤ 2 ∧ StOk f m seq 0 S)) (hne : wE.heap.size < wJ.heap.size)
    (HX : Hid (Row wK wE.heap.size (m + 2) S.nw S.wf ∧ Row wK wJ.heap.size nl nl S.ex ∧ Below wE.heap.size wE wK)) :
    let Q' : Exit → Act → World → Prop := bodyPost Try.prog Try.f5 (fun e w' => e = .returned (.bool true) ∧ Below w.heap.size w w')
    ∀ K : Act → World → Prop, (∀ a w, Code.wp Try.prog (tailFrom 51 body5) Q' a w → K a w) → Code.wp Try.prog (pieceAt 50 body5) (Exit.then K Q') ⟨#[.slice (some ⟨bt, offt, none⟩) n cap, .int .i32 h, .bool pu, .bool re, .bool fr, .int .i32 ho, .int .i32 hoT, .int .i32 hd, .slice b nl cap2, .int .i32 sp, c10, c11, c12, c13, c14, c15, c16, c17, c18, c19, c20, .int .i64 n, .int .i64 nl, c23, .slice (some ⟨w.heap.size + 1, 0, none⟩) m nl, c25, .int .i32 (seq m), c27, c28, c29, c30, c31, .pointer (some ⟨wD.heap.size + 1, 0, none⟩), .slice (some ⟨wE.heap.size, 0, none⟩) S.nw (m + 2), .slice (some ⟨wJ.heap.size, 0, none⟩) nl nl, c35, c36, c37, c38, c39, c40, c41, c42, c43, c44, c45, c46, c47, c48, c49, c50, c51, c52, c53, c54, c55, c56, c57, c58, c59, c60, c61, c62, c63, c64, c65, c66, c67, c68, c69, c70, c71, c72, c73, c74, c75, c76, c77, c78, c79, c80, c81, c82, c83, c84, c85, c86, c87, c88, c89, c90, c91, c92, c93, c94, c95, c96, c97, c98, c99, c100, c101, c102, c103, c104, c105, c106, c107, c108, c109, c110, c111, c112, c113, c114, c115, c116, c117, c118, c119, c120, c121, c122, c123, c124, c125, c126, c127, c128, c129, c130, c131, c132, c133, c134, c135, c136, c137, c138, c139, c140, c141, c142, c143, c144, c145, c146, c147, c148, c149, c150, c151, c152, c153, c154, c155, c156, c157, c158, c159, c160, c161, c162, c163, c164, c165, c166, c167, c168, c169, c170, c171, c172, c173, c174, c175, c176, c177, c178, c179, c180, c181, c182, c183, c184, c185, c186, c187, c188, c189, c190, c191, c192, c193, c194, c195, c196, c197, c198, c199, c200, c201, c202, c203, c204, c205, c206, c207, c208, c209, c210, c211, c212, c213, c214, c215, c216, c217, c218, c219, c220, c221, c222, c223, c224, c225, c226, c227, c228, c229, c230, c231, c232, c233, c234, c235, c236, c237, c238, c239, c240, c241, c242, c243, c244, c245, c246, c247, c248, c249, c250, c251, c252, c253, c254, c255, c256, c257, c258, c259, c260, c261, c262, c263, c264, c265, c266, c267, c268, c269, c270, c271, c272, c273, c274, c275, c276, c277, c278, c279, c280, c281, c282, c283, c284, c285, c286, c287, c288, c289, c290, c291, c292, c293, c294, c295, c296, c297, c298, c299, c300, c301, c302, c303, c304, c305, c306, c307, c308, c309, c310, c311, c312, c313, c314, c315, c316, c317, c318, c319, c320, c321, c322, c323, c324, c325, c326, c327, c328, c329, c330, c331, c332, c333, c334, c335, c336, c337, c338, c339, c340, c341, c342, c343, c344, c345, c346, c347, c348, c349, c350, c351, c352, c353, c354, c355, c356, c357, c358, c359, c360, c361, c362, c363, c364, c365, c366, c367, c368, c369, c370, c371, c372, c373, c374, c375, c376, c377, c378, c379, c380, c381, c382, c383, c384, c385, c386, c387, c388], []⟩ wK := by
  intro Q' K hK
  conv => arg 2; whnf
  conv at hK => enter [a, w, 1, 2]; whnf
  go_wp2
  have HchE : Hid (Row wE (w.heap.size + 1) nl m seq) := HA.out.1.later HE2.out.2
  go_loopg [33, 36, 37, 38, 39, 40] m (fun k v33 v36 v37 v38 v39 v40 wr => ∃ i : Nat, k + i = m ∧ v40 = .int .i64 i ∧ v33 = .slice (some ⟨wE.heap.size, 0, none⟩) (runs T f seq S i).nw (m + 2) ∧ v36 = .int .i32 (runs T f seq S i).head ∧ v37 = .int .i32 (runs T f seq S i).spare ∧ ((runs T f seq S i).kept = true → v38 = .int .i32 (runs T f seq S i).last) ∧ v39 = .bool (runs T f seq S i).kept ∧
    Row wr wE.heap.size (m + 2) (runs T f seq S i).nw (runs T f seq S i).wf ∧ Row wr wJ.heap.size nl nl (runs T f seq S i).ex ∧ Below wE.heap.size wE wr)
  case atStart =>
    obtain ⟨e1, e2, e3, e4, e5, e6⟩ := HSf.out
    refine ⟨0, by omega, rfl, rfl, ?_, ?_, fun hk => ?_, ?_, HX.out.1, HX.out.2.1, HX.out.2.2⟩
    · show _ = Value.int .i32 S.head; rw [e4]
    · show _ = Value.int .i32 S.spare; rw [e2]
    · change S.kept = true at hk; rw [e1] at hk; cases hk
    · show _ = Value.bool S.kept; rw [e1]
  obtain ⟨i, hk, rfl, rfl, rfl, rfl, h38, rfl, hrw, hrx, hbel⟩ := hrel
  obtain ⟨s, hs⟩ : ∃ s, runs T f seq S i = s := ⟨_, rfl⟩
  rw [hs] at hrw hrx h38 ⊢
  have hsok : StOk f m seq i s := by rw [← hs]; exact StOk.runs HC.out.1 HSf.out.2.2.2.2.2 i (by omega)
  by_cases hi : i < m
  · have hch := (HchE.out.later hbel).cell hi
    have hrg := HC.out.1.rng i hi
    have hcg := HC.out.1.crg i hi
    obtain ⟨x, hx⟩ := Int.eq_ofNat_of_zero_le hrg.1
    rw [hx] at hch hrg hcg
    rw [Int.toNat_natCast] at hcg
    have hxn : x < nl := by omega
    obtain ⟨c, hc⟩ := Int.eq_ofNat_of_zero_le hcg.1
    have hcn : c < n := by omega
    obtain ⟨bb, off, rfl, hbF, hcs⟩ := HqE.out (by omega)
    obtain ⟨q0, q1, _, _, _, _⟩ := hcs x hxn
    rw [hc] at q0
    obtain ⟨b2, o2, e2, t1⟩ := HpE.out.at hcn
    cases e2
    have Hq0 : Hid (wE.cell? ⟨bb, off + x * 4, none⟩ = some (.int .i32 c)) := q0
    have hbt : bt < wE.heap.size := World.block_lt_of_cell? wE _ t1
    replace q0 := (hbel.cell (p := ⟨bb, off + x * 4, none⟩) hbF).trans q0
    replace q1 := (hbel.cell (p := ⟨bb, off + x * 4 + 1, none⟩) hbF).trans q1
    replace t1 := (hbel.cell (p := ⟨bt, offt + c, none⟩) hbt).trans t1
    have hnw : s.nw < m + 2 := by
      have h1 := runs_nw T f seq S i
      have h2 := HSf.out.2.2.2.2.1
      rw [hs] at h1
      omega
    have Hx : Hid (seq i = x) := hx
    have Hc : Hid (f x 0 = c) := hc
    have Hs : Hid (runs T f seq S i = s) := hs
    have Hok : Hid (StOk f m seq i s) := hsok
    have HR : Hid (Row wr wE.heap.size (m + 2) s.nw s.wf ∧ Row wr wJ.heap.size nl nl s.ex ∧ Below wE.heap.size wE wr) := ⟨hrw, hrx, hbel⟩
    have H38 : Hid (s.kept = true → u38 = .int .i32 s.last) := h38
    have hltJ : wJ.heap.size < wr.heap.size := hrx.lt
    clear hrw hrx hbel hcs hcg hx hc hs hsok h38 HX
    go_upto_region 58 with fail
    go_cut [298] from 275 to 298 (fun v wc => v = .bool (decide (f x 1 = T c)) ∧ Below wr.heap.size wr wc)
    case first =>
      by_cases hl : f x 1 = T c
      · rw [hl] at q1
        have Hl : Hid (f x 1 = T c) := hl
        clear hl
        go_quiet (fail)
        go_wp2
        go_meet
        case rel => exact ⟨by simp [Hl.out], below_drewN _⟩
      · go_quiet (fail)
        go_wp2
        go_meet
        case rel => exact ⟨by simp [hl], below_drewN _⟩
    obtain ⟨rfl, hbw⟩ := hcut
    have hB2 : Below wE.heap.size wE wc := HR.out.2.2.trans (hbw.mono HR.out.2.2.size)
    have HR2 : Hid (Row wc wE.heap.size (m + 2) s.nw s.wf ∧ Row wc wJ.heap.size nl nl s.ex ∧ Below wE.heap.size wE wc) := ⟨HR.out.1.later hbw, HR.out.2.1.later hbw, hB2⟩
    have p0 := (hB2.cell (p := ⟨bb, off + x * 4, none⟩) hbF).trans Hq0.out
    have hltL : wJ.heap.size < wc.heap.size := HR2.out.2.1.lt
    clear hB2 hbw HR q0 q1 t1 hch hltJ
    obtain ⟨wL, rfl⟩ : ∃ wL : World, wL = wc := ⟨_, rfl⟩
    by_cases hl : f x 1 = T c
    · have hst := runs_live Hs.out Hx.out Hc.out hl
      have hdl : decide (f x 1 = T c) = true := by simp [hl]
      rw [hdl]
      clear hdl hl
      cases hkp : s.kept with
      | true =>
        have e38 := H38.out hkp
        subst e38
        rw [hkp] at hst
        obtain ⟨ka, hka, hla⟩ := Hok.out.old hkp
        have hlr := HC.out.1.rng ka (by omega)
        have hll : s.last < nl := by omega
        have Hst : Hid _ := hst
        clear hst hla hlr
        obtain ⟨i0, hi0, hz0, hz1, hz2⟩ := info_parts Try.info21
        obtain ⟨xs, hox, hxx⟩ := HR2.out.1
        have Hox : Hid _ := hox
        have Hxx : Hid _ := hxx
        clear hox hxx
        go_wp2_with (at_builtin; refine wpList_append_fits _ (by rfl) (.tmp 299) (.tmp 305) 26 (by rfl) wE.heap.size 21 i0 1 Try.underlying26 hi0 hz1 wE.heap.size s.nw (m + 2) xs (by rfl) (World.ownsRow.alloc Hox _) ⟨wL.heap.size, 0, none⟩ 1 1 [.int .i32 c] (by rfl) (by rfl) ?ka4 ?kb4 ?kc4 ?_)
        try any_goals (first | exact new_one_at (by simp) | exact one_cell | rfl | omega)
        intro w3 hown3 hgrow3
        obtain ⟨hr3, ho3⟩ := Row.app (by have := Hox.out.1; omega) Hxx.out hown3 hgrow3
        have hrx3 := HR2.out.2.1.off ho3 (by omega) (by simp)
        have HR3 : Hid (Row w3 wE.heap.size (m + 2) (s.nw + 1) (upd s.wf s.nw c) ∧ Row w3 wJ.heap.size nl nl s.ex ∧ Below wE.heap.size wE w3) := ⟨hr3, hrx3, HR2.out.2.2.trans (ho3.below (Nat.le_refl _) (by omega) (by simp))⟩
        have z1 := hrx3.cell hll
        have y1 := hrx3.frozen s.last
        clear hr3 ho3 hown3 hgrow3 hz0 hz1 hz2 hrx3 p0
        go_wp2
        go_roundg (gk - 1)
        case measure => omega
        case rel =>
          refine ⟨i + 1, by omega, by go_num, ?_⟩
          rw [Hst.out]
          exact ⟨rfl, rfl, rfl, fun _ => rfl, rfl, HR3.out.1.far (by simp; omega) _, HR3.out.2.1.set s.last x, HR3.out.2.2.setCell (by simp; omega) _⟩
      | false =>
        rw [hkp] at hst
        have Hst : Hid _ := hst
        clear hst
        obtain ⟨i0, hi0, hz0, hz1, hz2⟩ := info_parts Try.info21
        obtain ⟨xs, hox, hxx⟩ := HR2.out.1
        have Hox : Hid _ := hox
        have Hxx : Hid _ := hxx
        clear hox hxx
        go_wp2_with (at_builtin; refine wpList_append_fits _ (by rfl) (.tmp 299) (.tmp 305) 26 (by rfl) wE.heap.size 21 i0 1 Try.underlying26 hi0 hz1 wE.heap.size s.nw (m + 2) xs (by rfl) (World.ownsRow.alloc Hox _) ⟨wL.heap.size, 0, none⟩ 1 1 [.int .i32 c] (by rfl) (by rfl) ?ka5 ?kb5 ?kc5 ?_)
        try any_goals (first | exact new_one_at (by simp) | exact one_cell | rfl | omega)
        intro w3 hown3 hgrow3
        obtain ⟨hr3, ho3⟩ := Row.app (by have := Hox.out.1; omega) Hxx.out hown3 hgrow3
        have hrx3 := HR2.out.2.1.off ho3 (by omega) (by simp)
        have HR3 : Hid (Row w3 wE.heap.size (m + 2) (s.nw + 1) (upd s.wf s.nw c) ∧ Row w3 wJ.heap.size nl nl s.ex ∧ Below wE.heap.size wE w3) := ⟨hr3, hrx3, HR2.out.2.2.trans (ho3.below (Nat.le_refl _) (by omega) (by simp))⟩
        clear hr3 ho3 hown3 hgrow3 hz0 hz1 hz2 hrx3 p0
        go_wp2
        go_roundg (gk - 1)
        case measure => omega
        case rel =>
          refine ⟨i + 1, by omega, by go_num, ?_⟩
          rw [Hst.out]
          exact ⟨rfl, rfl, rfl, fun _ => rfl, rfl, HR3.out.1, HR3.out.2.1, HR3.out.2.2⟩
    · have hst := runs_stale Hs.out Hx.out Hc.out hl
      have hdl : decide (f x 1 = T c) = false := by simp [hl]
      rw [hdl]
      have Hst : Hid _ := hst
      clear hdl hl hst
      have z1 := HR2.out.2.1.cell hxn
      have y1 := HR2.out.2.1.frozen x
      go_wp2
      go_roundg (gk - 1)
      case measure => omega
      case rel =>
        refine ⟨i + 1, by omega, by go_num, ?_⟩
        rw [Hst.out]
        exact ⟨rfl, rfl, rfl, H38.out, rfl, HR2.out.1.far (by simp; omega) _, HR2.out.2.1.set x s.spare, HR2.out.2.2.setCell (by simp; omega) _⟩
  have eim : m = i := by omega
  subst eim
  have HL : Hid (Row wr wE.heap.size (m + 2) s.nw s.wf ∧ Row wr wJ.heap.size nl nl s.ex ∧ Below wE.heap.size wE wr) := ⟨hrw, hrx, hbel⟩
  have Hs : Hid (runs T f seq S m = s) := hs
  have Hok : Hid (StOk f m seq m s) := hsok
  have H38 : Hid (s.kept = true → u38 = .int .i32 s.last) := h38
  clear hrw hrx hbel hs hsok h38 HX hi hk
  obtain ⟨wN, rfl⟩ : ∃ wN : World, wN = wr := ⟨_, rfl⟩
  go_upto_if 319 with fail
  go_cut [38, 39, 319] from 275 to 323 (fun _ _ _ wc => Row wc wE.heap.size (m + 2) s.nw s.wf ∧ Row wc wJ.heap.size nl nl (fun i => real f seq m s i 3) ∧ Below wE.heap.size wE wc)
  case first =>
    cases hkp : s.kept with
    | true =>
      have e38 := H38.out hkp
      subst e38
      obtain ⟨ka, hka, hla⟩ := Hok.out.old hkp
      have hlr := HC.out.1.rng ka (by omega)
      have hll : s.last < nl := by omega
      have z1 := HL.out.2.1.cell hll
      have y1 := HL.out.2.1.frozen s.last
      clear hla hlr
      go_wp2
      go_meet
      case rel =>
        refine ⟨HL.out.1.far (by simp; omega) _, (HL.out.2.1.set s.last (seq m)).congr (fun i hi => ?_), HL.out.2.2.setCell (by simp; omega) _⟩
        by_cases hil : i = s.last <;> simp [real, hkp, upd, hil]
    | false =>
      go_wp2
      go_meet
      case rel => exact ⟨HL.out.1, HL.out.2.1.congr (fun i hi => by simp [real, hkp]), HL.out.2.2⟩
  have HP : Hid (Row wc wE.heap.size (m + 2) s.nw s.wf ∧ Row wc wJ.heap.size nl nl (fun i => real f seq m s i 3) ∧ Below wE.heap.size wE wc) := hcut
  clear hcut HL
  obtain ⟨wP, rfl⟩ : ∃ wP : World, wP = wc := ⟨_, rfl⟩
  have hhead : s.head = headOf seq m s := by
    cases hkp : s.kept with
    | true => simp [headOf, hkp]
    | false =>
      have h1 := runs_head (T := T) (f := f) (seq := seq) HSf.out.1 m
      rw [Hs.out] at h1
      simp [headOf, hkp, h1 hkp, HSf.out.2.2.2.1]
  rw [hhead]
  clear hhead
  go_upto_region 69 with fail
  refine part69 n T h pu re fr ho hoT hd b nl cap2 f sp w m seq wA wB wD wE wF wJ wP S s n1 nl1 hmn Hho Hq HC HE HE2 HZ HS HSf Hs hne HP _ ?_
  assumption
end Go.Proofs.Qxb6614451a
