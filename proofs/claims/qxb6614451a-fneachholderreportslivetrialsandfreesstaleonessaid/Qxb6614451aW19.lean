/- The law begins to reckon: the first two tests, the next numbers. -/
import Derived.Test.Qxb6614451aW18
namespace Go.Proofs.Qxb6614451a
open Go.RowKit

set_option maxRecDepth 100000 in
set_option maxHeartbeats 8000000 in
theorem part40 {c10 c11 c12 c13 c14 c15 c16 c17 c18 c19 c20 c23 c25 c27 c28 c29 c30 c31 c33 c34 c35 c36 c37 c38 c39 c40 c41 c42 c43 c44 c45 c46 c47 c48 c49 c50 c51 c52 c53 c54 c55 c56 c57 c58 c59 c60 c61 c62 c63 c64 c65 c66 c67 c68 c69 c70 c71 c72 c73 c74 c75 c76 c77 c78 c79 c80 c81 c82 c83 c84 c85 c86 c87 c88 c89 c90 c91 c92 c93 c94 c95 c96 c97 c98 c99 c100 c101 c102 c103 c104 c105 c106 c107 c108 c109 c110 c111 c112 c113 c114 c115 c116 c117 c118 c119 c120 c121 c122 c123 c124 c125 c126 c127 c128 c129 c130 c131 c132 c133 c134 c135 c136 c137 c138 c139 c140 c141 c142 c143 c144 c145 c146 c147 c148 c149 c150 c151 c152 c153 c154 c155 c156 c157 c158 c159 c160 c161 c162 c163 c164 c165 c166 c167 c168 c169 c170 c171 c172 c173 c174 c175 c176 c177 c178 c179 c180 c181 c182 c183 c184 c185 c186 c187 c188 c189 c190 c191 c192 c193 c194 c195 c196 c197 c198 c199 c200 c201 c202 c203 c204 c205 c206 c207 c208 c209 c210 c211 c212 c213 c214 c215 c216 c217 c218 c219 c220 c221 c222 c223 c224 c225 c226 c227 c228 c229 c230 c231 c232 c233 c234 c235 c236 c237 c238 c239 c240 c241 c242 c243 c244 c245 c246 c247 c248 c249 c250 c251 c252 c253 c254 c255 c256 c257 c258 c259 c260 c261 c262 c263 c264 c265 c266 c267 c268 c269 c270 c271 c272 c273 c274 c275 c276 c277 c278 c279 c280 c281 c282 c283 c284 c285 c286 c287 c288 c289 c290 c291 c292 c293 c294 c295 c296 c297 c298 c299 c300 c301 c302 c303 c304 c305 c306 c307 c308 c309 c310 c311 c312 c313 c314 c315 c316 c317 c318 c319 c320 c321 c322 c323 c324 c325 c326 c327 c328 c329 c330 c331 c332 c333 c334 c335 c336 c337 c338 c339 c340 c341 c342 c343 c344 c345 c346 c347 c348 c349 c350 c351 c352 c353 c354 c355 c356 c357 c358 c359 c360 c361 c362 c363 c364 c365 c366 c367 c368 c369 c370 c371 c372 c373 c374 c375 c376 c377 c378 c379 c380 c381 c382 c383 c384 c385 c386 c387 c388 : Value} (a : Option Addr) (n cap : Nat) (T : Nat → Int) (h : Nat) (pu re fr : Bool) (ho hoT hd : Int) (b : Option Addr) (nl cap2 : Nat) (f : Nat → Nat → Int) (sp : Int) (w : World) (m : Nat) (seq : Nat → Int) (wA wB wD wE wF : World) (n1 : n ≤ 65536) (nl1 : nl ≤ 65536) (hhn : h < n) (hmn : m ≤ nl) (Hho : Hid (hoT ≠ 0 → 0 ≤ ho ∧ ho < n)) (Hp : Hid (TriesAt w a n T)) (Hq : Hid (LinksAt w b nl f)) (HC : Hid (Chain f n nl m seq ∧ seq 0 = hd)) (HA : Hid (Row wA (w.heap.size + 1) nl m seq ∧ Below w.heap.size w wA)) (HE : Hid (G5 wE (wD.heap.size + 1) wD.heap.size wB.heap.size wA.heap.size wF.heap.size n nl h T fr pu re ho hoT hd f sp ∧ Below wD.heap.size wD wE)) (HE2 : Hid (Below w.heap.size w wE ∧ Below wA.heap.size wA wE)) (HZ : Hid (w.heap.size ≤ wA.heap.size ∧ wA.heap.size ≤ wF.heap.size ∧ wF.heap.size ≤ wD.heap.size)) :
    let Q' : Exit → Act → World → Prop := bodyPost Try.prog Try.f5 (fun e w' => e = .returned (.bool true) ∧ Below w.heap.size w w')
    ∀ K : Act → World → Prop, (∀ a w, Code.wp Try.prog (tailFrom 41 body5) Q' a w → K a w) → Code.wp Try.prog (pieceAt 40 body5) (Exit.then K Q') ⟨#[.slice a n cap, .int .i32 h, .bool pu, .bool re, .bool fr, .int .i32 ho, .int .i32 hoT, .int .i32 hd, .slice b nl cap2, .int .i32 sp, c10, c11, c12, c13, c14, c15, c16, c17, c18, c19, c20, .int .i64 n, .int .i64 nl, c23, .slice (some ⟨w.heap.size + 1, 0, none⟩) m nl, c25, .int .i32 (seq m), c27, c28, c29, c30, c31, .pointer (some ⟨wD.heap.size + 1, 0, none⟩), c33, c34, c35, c36, c37, c38, c39, c40, c41, c42, c43, c44, c45, c46, c47, c48, c49, c50, c51, c52, c53, c54, c55, c56, c57, c58, c59, c60, c61, c62, c63, c64, c65, c66, c67, c68, c69, c70, c71, c72, c73, c74, c75, c76, c77, c78, c79, c80, c81, c82, c83, c84, c85, c86, c87, c88, c89, c90, c91, c92, c93, c94, c95, c96, c97, c98, c99, c100, c101, c102, c103, c104, c105, c106, c107, c108, c109, c110, c111, c112, c113, c114, c115, c116, c117, c118, c119, c120, c121, c122, c123, c124, c125, c126, c127, c128, c129, c130, c131, c132, c133, c134, c135, c136, c137, c138, c139, c140, c141, c142, c143, c144, c145, c146, c147, c148, c149, c150, c151, c152, c153, c154, c155, c156, c157, c158, c159, c160, c161, c162, c163, c164, c165, c166, c167, c168, c169, c170, c171, c172, c173, c174, c175, c176, c177, c178, c179, c180, c181, c182, c183, c184, c185, c186, c187, c188, c189, c190, c191, c192, c193, c194, c195, c196, c197, c198, c199, c200, c201, c202, c203, c204, c205, c206, c207, c208, c209, c210, c211, c212, c213, c214, c215, c216, c217, c218, c219, c220, c221, c222, c223, c224, c225, c226, c227, c228, c229, c230, c231, c232, c233, c234, c235, c236, c237, c238, c239, c240, c241, c242, c243, c244, c245, c246, c247, c248, c249, c250, c251, c252, c253, c254, c255, c256, c257, c258, c259, c260, c261, c262, c263, c264, c265, c266, c267, c268, c269, c270, c271, c272, c273, c274, c275, c276, c277, c278, c279, c280, c281, c282, c283, c284, c285, c286, c287, c288, c289, c290, c291, c292, c293, c294, c295, c296, c297, c298, c299, c300, c301, c302, c303, c304, c305, c306, c307, c308, c309, c310, c311, c312, c313, c314, c315, c316, c317, c318, c319, c320, c321, c322, c323, c324, c325, c326, c327, c328, c329, c330, c331, c332, c333, c334, c335, c336, c337, c338, c339, c340, c341, c342, c343, c344, c345, c346, c347, c348, c349, c350, c351, c352, c353, c354, c355, c356, c357, c358, c359, c360, c361, c362, c363, c364, c365, c366, c367, c368, c369, c370, c371, c372, c373, c374, c375, c376, c377, c378, c379, c380, c381, c382, c383, c384, c385, c386, c387, c388], []⟩ wE := by
  intro Q' K hK
  conv => arg 2; whnf
  conv at hK => enter [a, w, 1, 2]; whnf
  have hmk : ∀ w : World, (Instr.makeSlice 26 (.int .i64 0) (.int .i64 ((m : Int) + 2))).run Try.prog w = .ok (.slice (some ⟨w.heap.size, 0, none⟩) 0 (m + 2)) (w.alloc (.cells (madeCells #[.int .i32 0] (m + 2)) 21)) := fun w => by
    have := make_cap (P := Try.prog) 26 21 _ 1 4 Try.underlying26 Try.info21 .i64 .i64 0 (m + 2) (by omega) (by omega) (by omega) w
    rw [Nat.mul_one] at this
    exact this
  go_upto_region 41 with fail
  clear hmk
  obtain ⟨wG, hwG⟩ : ∃ wG, wE.alloc (.cells (madeCells #[.int .i32 0] (m + 2)) 21) = wG := ⟨_, rfl⟩
  rw [hwG]
  have HG : Hid (Row wG wE.heap.size (m + 2) 0 (fun _ => 0) ∧ Below wE.heap.size wE wG) := by
    have r := row_empty wE (m + 2) (by unfold maxLen; omega)
    rw [Nat.mul_one, hwG] at r
    exact ⟨r, by rw [← hwG]; exact (Below.refl _ _).alloc (Nat.le_refl _) _⟩
  clear hwG
  have HpE : Hid (TriesAt wE a n T) := Hp.out.later HE2.out.1
  have HqE : Hid (LinksAt wE b nl f) := Hq.out.later HE2.out.1
  obtain ⟨bt, offt, hat, hct⟩ := (HpE.out.later HG.out.2).at hhn
  subst hat
  go_cut [239] from 215 to 239 (fun v wc => v = .bool (c1 T h fr pu re) ∧ wG = wc)
  case first =>
    by_cases hT : 0 < T h <;> cases pu <;> cases re <;> cases fr <;> (go_wp2; go_meet; exact ⟨by simp [c1, hT], rfl⟩)
  obtain ⟨rfl, rfl⟩ := hcut
  clear hct
  go_upto_if 239 with fail
  go_cut [33] from 239 to 243 (fun v wc => v = .slice (some ⟨wE.heap.size, 0, none⟩) (st1 T h fr pu re (s0 f (seq m) sp)).nw (m + 2) ∧ Row wc wE.heap.size (m + 2) (st1 T h fr pu re (s0 f (seq m) sp)).nw (st1 T h fr pu re (s0 f (seq m) sp)).wf ∧ Below wE.heap.size wE wc)
  case first =>
    cases hc1 : c1 T h fr pu re with
    | true =>
      obtain ⟨i0, hi, hz0, hz1, hz2⟩ := info_parts Try.info21
      obtain ⟨xs, hox, hxx⟩ := HG.out.1
      have Hox : Hid _ := hox
      have Hxx : Hid _ := hxx
      have hlt := HG.out.1.lt
      clear hox hxx
      go_wp2_with (at_builtin; refine wpList_append_fits _ (by rfl) (.tmp 240) (.tmp 242) 26 (by rfl) wE.heap.size 21 i0 1 Try.underlying26 hi hz1 wE.heap.size 0 (m + 2) xs (by rfl) (World.ownsRow.alloc Hox _) ⟨wG.heap.size, 0, none⟩ 1 1 [.int .i32 h] (by rfl) (by rfl) ?ka2 ?kb2 ?kc2 ?_)
      try any_goals (first | exact new_one_at (by simp) | exact one_cell | rfl | omega)
      intro w3 hown3 hgrow3
      obtain ⟨hr3, ho3⟩ := Row.app (by have := Hox.out.1; omega) Hxx.out hown3 hgrow3
      have HR3 : Hid (Row w3 wE.heap.size (m + 2) 1 (upd (fun _ => 0) 0 h) ∧ Below wE.heap.size wE w3) := ⟨hr3, HG.out.2.trans (ho3.below (Nat.le_refl _) (by omega) (by simp))⟩
      clear hr3 ho3 hown3 hgrow3 hz0 hz1 hz2
      go_wp2
      go_meet
      case rel =>
        have e1 : st1 T h fr pu re (s0 f (seq m) sp) = { s0 f (seq m) sp with nw := 1, wf := upd (fun _ => 0) 0 h } := by simp only [st1, hc1, if_true]; rfl
        rw [e1]
        exact ⟨rfl, HR3.out⟩
    | false =>
      go_wp2
      go_meet
      case rel =>
        have e1 : st1 T h fr pu re (s0 f (seq m) sp) = s0 f (seq m) sp := by simp [st1, hc1]
        rw [e1]
        exact ⟨rfl, HG.out⟩
  obtain ⟨rfl, hrc, hbc⟩ := hcut
  have HR1 : Hid (Row wc wE.heap.size (m + 2) (st1 T h fr pu re (s0 f (seq m) sp)).nw (st1 T h fr pu re (s0 f (seq m) sp)).wf ∧ Below wE.heap.size wE wc) := ⟨hrc, hbc⟩
  clear hrc hbc HG
  obtain ⟨wI, rfl⟩ : ∃ wI : World, wI = wc := ⟨_, rfl⟩
  obtain ⟨S1, hS1⟩ : ∃ S1, st1 T h fr pu re (s0 f (seq m) sp) = S1 := ⟨_, rfl⟩
  have hN1 : S1.nw ≤ 1 := by rw [← hS1]; exact st1_nw rfl
  rw [hS1] at HR1 ⊢
  have HS1 : Hid (st1 T h fr pu re (s0 f (seq m) sp) = S1) := hS1
  clear hS1
  go_upto_region 43 with fail
  go_cut [253] from 239 to 253 (fun v wc => v = .bool (c2 T ho hoT) ∧ wI = wc)
  case first =>
    by_cases hz : hoT = 0
    · subst hz
      go_wp2
      go_meet
      case rel => exact ⟨by simp [c2], rfl⟩
    · obtain ⟨l1, l2⟩ := Hho.out hz
      obtain ⟨q, hq⟩ := Int.eq_ofNat_of_zero_le l1
      subst hq
      obtain ⟨b2, o2, e2, hc2⟩ := (HpE.out.later HR1.out.2).at (i := q) (by omega)
      cases e2
      by_cases hT : hoT = T q
      · subst hT
        go_wp2
        go_meet
        case rel => exact ⟨by simp [c2, hz], rfl⟩
      · go_wp2
        go_meet
        case rel => exact ⟨by simp [c2, hz, hT], rfl⟩
  obtain ⟨rfl, rfl⟩ := hcut
  go_upto_if 253 with fail
  go_cut [33] from 253 to 257 (fun v wc => v = .slice (some ⟨wE.heap.size, 0, none⟩) (st2 T ho hoT S1).nw (m + 2) ∧ Row wc wE.heap.size (m + 2) (st2 T ho hoT S1).nw (st2 T ho hoT S1).wf ∧ Below wE.heap.size wE wc)
  case first =>
    cases hc2 : c2 T ho hoT with
    | true =>
      obtain ⟨i0, hi, hz0, hz1, hz2⟩ := info_parts Try.info21
      obtain ⟨xs, hox, hxx⟩ := HR1.out.1
      have Hox : Hid _ := hox
      have Hxx : Hid _ := hxx
      have hlt := HR1.out.1.lt
      clear hox hxx
      go_wp2_with (at_builtin; refine wpList_append_fits _ (by rfl) (.tmp 254) (.tmp 256) 26 (by rfl) wE.heap.size 21 i0 1 Try.underlying26 hi hz1 wE.heap.size S1.nw (m + 2) xs (by rfl) (World.ownsRow.alloc Hox _) ⟨wI.heap.size, 0, none⟩ 1 1 [.int .i32 ho] (by rfl) (by rfl) ?ka3 ?kb3 ?kc3 ?_)
      try any_goals (first | exact new_one_at (by simp) | exact one_cell | rfl | omega)
      intro w3 hown3 hgrow3
      obtain ⟨hr3, ho3⟩ := Row.app (by have := Hox.out.1; omega) Hxx.out hown3 hgrow3
      have HR3 : Hid (Row w3 wE.heap.size (m + 2) (S1.nw + 1) (upd S1.wf S1.nw ho) ∧ Below wE.heap.size wE w3) := ⟨hr3, HR1.out.2.trans (ho3.below (Nat.le_refl _) (by omega) (by simp))⟩
      clear hr3 ho3 hown3 hgrow3 hz0 hz1 hz2
      go_wp2
      go_meet
      case rel =>
        have e1 : st2 T ho hoT S1 = { S1 with nw := S1.nw + 1, wf := upd S1.wf S1.nw ho } := by simp [st2, hc2]
        rw [e1]
        exact ⟨rfl, HR3.out⟩
    | false =>
      go_wp2
      go_meet
      case rel =>
        have e1 : st2 T ho hoT S1 = S1 := by simp [st2, hc2]
        rw [e1]
        exact ⟨rfl, HR1.out⟩
  obtain ⟨rfl, hrc, hbc⟩ := hcut
  obtain ⟨S, hS⟩ : ∃ S, st2 T ho hoT S1 = S := ⟨_, rfl⟩
  rw [hS] at hrc ⊢
  have HS : Hid (sB T f h fr pu re ho hoT (seq m) sp = S) := by
    show sB T f h fr pu re ho hoT (seq m) sp = S
    unfold sB; rw [HS1.out]; exact hS
  have HR2 : Hid (Row wc wE.heap.size (m + 2) S.nw S.wf ∧ Below wE.heap.size wE wc) := ⟨hrc, hbc⟩
  clear hrc hbc HR1 hS HS1 hN1 S1
  obtain ⟨wJ, rfl⟩ : ∃ wJ : World, wJ = wc := ⟨_, rfl⟩
  have HSf : Hid (S.kept = false ∧ S.spare = sp ∧ S.ex = (fun i => f i 3) ∧ S.head = seq m ∧ S.nw ≤ 2 ∧ StOk f m seq 0 S) := by
    have := sB_facts T f h fr pu re ho hoT (seq m) sp m seq
    rw [HS.out] at this
    exact this
  have hmk : ∀ w : World, (Instr.makeSlice 26 (.int .i64 (nl : Int)) (.int .i64 (nl : Int))).run Try.prog w = .ok (.slice (some ⟨w.heap.size, 0, none⟩) nl nl) (w.alloc (.cells (madeCells #[.int .i32 0] nl) 21)) := fun w => by
    have := make_cap (P := Try.prog) 26 21 _ 1 4 Try.underlying26 Try.info21 .i64 .i64 nl nl (Nat.le_refl _) (by omega) (by omega) w
    rw [Nat.mul_one] at this
    exact this
  go_wp2
  clear hmk
  go_loopg [35] nl (fun k v35 wr => ∃ (i : Nat) (ex : Nat → Int), k + i = nl ∧ v35 = .int .i64 i ∧ Row wr wJ.heap.size nl nl ex ∧ (∀ j, j < i → ex j = f j 3) ∧ Below wJ.heap.size wJ wr)
  case atStart =>
    have r := row_made wJ nl (by unfold maxLen; omega)
    rw [Nat.mul_one] at r
    exact ⟨0, _, by omega, rfl, r, fun j hj => by omega, (Below.refl _ _).alloc (Nat.le_refl _) _⟩
  obtain ⟨i, ex, hk, rfl, hr, hex, hbel⟩ := hrel
  by_cases hi : i < nl
  · obtain ⟨bb, off, rfl, hbF, hcs⟩ := ((HqE.out.later HR2.out.2).later hbel) (by omega)
    obtain ⟨_, _, _, q3, _, _⟩ := hcs i hi
    have z1 := hr.cell hi
    have y1 := hr.frozen i
    have HX : Hid (Row wr wJ.heap.size nl nl ex ∧ (∀ j, j < i → ex j = f j 3) ∧ Below wJ.heap.size wJ wr) := ⟨hr, hex, hbel⟩
    clear hr hex hbel hcs
    go_wp2
    go_roundg (gk - 1)
    case measure => omega
    case rel =>
      obtain ⟨hr, hex, hbel⟩ := HX.out
      refine ⟨i + 1, upd ex i (f i 3), by omega, by go_num, hr.set i _, fun j hj => ?_, hbel.setCell (by simp) _⟩
      by_cases hji : j = i
      · subst hji; simp [upd]
      · simp only [upd, hji, if_false]; exact hex j (by omega)
  have ein : nl = i := by omega
  subst ein
  have HX : Hid (Row wr wE.heap.size (m + 2) S.nw S.wf ∧ Row wr wJ.heap.size nl nl S.ex ∧ Below wE.heap.size wE wr) := by
    have s1 : wE.heap.size ≤ wJ.heap.size := HR2.out.2.size
    refine ⟨HR2.out.1.later hbel, hr.congr (fun j hj => ?_), HR2.out.2.trans (hbel.mono s1)⟩
    rw [HSf.out.2.2.1]; exact hex j (by omega)
  have hne : wE.heap.size < wJ.heap.size := HR2.out.1.lt
  clear hr hex hbel hk hi HR2
  obtain ⟨wK, rfl⟩ : ∃ wK : World, wK = wr := ⟨_, rfl⟩
  go_upto_region 50 with fail
  refine part50 bt offt n cap T h pu re fr ho hoT hd b nl cap2 f sp w m seq wA wB wD wE wF wJ wK S n1 nl1 hmn Hho Hq HpE HqE HC HA HE HE2 HZ HS HSf hne HX _ ?_
  assumption
end Go.Proofs.Qxb6614451a
