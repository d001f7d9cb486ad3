/- The law behind its own reckoning: eachHolder is called and held against it. -/
import Derived.Test.Qxb6614451aW16
namespace Go.Proofs.Qxb6614451a
open Go.RowKit

set_option maxRecDepth 100000 in
set_option maxHeartbeats 8000000 in
theorem part69 {c0 c2 c3 c4 c5 c6 c7 c9 c10 c11 c12 c13 c14 c15 c16 c17 c18 c19 c20 c21 c23 c24 c25 c26 c27 c28 c29 c30 c31 c35 c38 c39 c40 c41 c42 c43 c44 c45 c46 c47 c48 c49 c50 c51 c52 c53 c54 c55 c56 c57 c58 c59 c60 c61 c62 c63 c64 c65 c66 c67 c68 c69 c70 c71 c72 c73 c74 c75 c76 c77 c78 c79 c80 c81 c82 c83 c84 c85 c86 c87 c88 c89 c90 c91 c92 c93 c94 c95 c96 c97 c98 c99 c100 c101 c102 c103 c104 c105 c106 c107 c108 c109 c110 c111 c112 c113 c114 c115 c116 c117 c118 c119 c120 c121 c122 c123 c124 c125 c126 c127 c128 c129 c130 c131 c132 c133 c134 c135 c136 c137 c138 c139 c140 c141 c142 c143 c144 c145 c146 c147 c148 c149 c150 c151 c152 c153 c154 c155 c156 c157 c158 c159 c160 c161 c162 c163 c164 c165 c166 c167 c168 c169 c170 c171 c172 c173 c174 c175 c176 c177 c178 c179 c180 c181 c182 c183 c184 c185 c186 c187 c188 c189 c190 c191 c192 c193 c194 c195 c196 c197 c198 c199 c200 c201 c202 c203 c204 c205 c206 c207 c208 c209 c210 c211 c212 c213 c214 c215 c216 c217 c218 c219 c220 c221 c222 c223 c224 c225 c226 c227 c228 c229 c230 c231 c232 c233 c234 c235 c236 c237 c238 c239 c240 c241 c242 c243 c244 c245 c246 c247 c248 c249 c250 c251 c252 c253 c254 c255 c256 c257 c258 c259 c260 c261 c262 c263 c264 c265 c266 c267 c268 c269 c270 c271 c272 c273 c274 c275 c276 c277 c278 c279 c280 c281 c282 c283 c284 c285 c286 c287 c288 c289 c290 c291 c292 c293 c294 c295 c296 c297 c298 c299 c300 c301 c302 c303 c304 c305 c306 c307 c308 c309 c310 c311 c312 c313 c314 c315 c316 c317 c318 c319 c320 c321 c322 c323 c324 c325 c326 c327 c328 c329 c330 c331 c332 c333 c334 c335 c336 c337 c338 c339 c340 c341 c342 c343 c344 c345 c346 c347 c348 c349 c350 c351 c352 c353 c354 c355 c356 c357 c358 c359 c360 c361 c362 c363 c364 c365 c366 c367 c368 c369 c370 c371 c372 c373 c374 c375 c376 c377 c378 c379 c380 c381 c382 c383 c384 c385 c386 c387 c388 : Value} (n : Nat) (T : Nat → Int) (h : Nat) (pu re fr : Bool) (ho hoT hd : Int) (b : Option Addr) (nl cap2 : Nat) (f : Nat → Nat → Int) (sp : Int) (w : World) (m : Nat) (seq : Nat → Int) (wA wB wD wE wF wJ wP : World) (S s : St) (n1 : n ≤ 65536) (nl1 : nl ≤ 65536) (hmn : m ≤ nl) (Hho : Hid (hoT ≠ 0 → 0 ≤ ho ∧ ho < n)) (Hq : Hid (LinksAt w b nl f)) (HC : Hid (Chain f n nl m seq ∧ seq 0 = hd)) (HE : Hid (G5 wE (wD.heap.size + 1) wD.heap.size wB.heap.size wA.heap.size wF.heap.size n nl h T fr pu re ho hoT hd f sp ∧ Below wD.heap.size wD wE)) (HE2 : Hid (Below w.heap.size w wE ∧ Below wA.heap.size wA wE)) (HZ : Hid (w.heap.size ≤ wA.heap.size ∧ wA.heap.size ≤ wF.heap.size ∧ wF.heap.size ≤ wD.heap.size)) (HS : Hid (sB T f h fr pu re ho hoT (seq m) sp = S)) (HSf : Hid (S.kept = false ∧ S.spare = sp ∧ S.ex = (fun i => f i 3) ∧ S.head = seq m ∧ S.nw ≤ 2 ∧ StOk f m seq 0 S)) (Hs : Hid (runs T f seq S m = s)) (hne : wE.heap.size < wJ.heap.size)
    (HP : Hid (Row wP wE.heap.size (m + 2) s.nw s.wf ∧ Row wP wJ.heap.size nl nl (fun i => real f seq m s i 3) ∧ Below wE.heap.size wE wP)) :
    let Q' : Exit → Act → World → Prop := bodyPost Try.prog Try.f5 (fun e w' => e = .returned (.bool true) ∧ Below w.heap.size w w')
    ∀ K : Act → World → Prop, (∀ a w, Code.wp Try.prog (tailFrom 70 body5) Q' a w → K a w) → Code.wp Try.prog (pieceAt 69 body5) (Exit.then K Q') ⟨#[c0, .int .i32 h, c2, c3, c4, c5, c6, c7, .slice b nl cap2, c9, c10, c11, c12, c13, c14, c15, c16, c17, c18, c19, c20, c21, .int .i64 nl, c23, c24, c25, c26, c27, c28, c29, c30, c31, .pointer (some ⟨wD.heap.size + 1, 0, none⟩), .slice (some ⟨wE.heap.size, 0, none⟩) s.nw (m + 2), .slice (some ⟨wJ.heap.size, 0, none⟩) nl nl, c35, .int .i32 (headOf seq m s), .int .i32 s.spare, c38, c39, c40, c41, c42, c43, c44, c45, c46, c47, c48, c49, c50, c51, c52, c53, c54, c55, c56, c57, c58, c59, c60, c61, c62, c63, c64, c65, c66, c67, c68, c69, c70, c71, c72, c73, c74, c75, c76, c77, c78, c79, c80, c81, c82, c83, c84, c85, c86, c87, c88, c89, c90, c91, c92, c93, c94, c95, c96, c97, c98, c99, c100, c101, c102, c103, c104, c105, c106, c107, c108, c109, c110, c111, c112, c113, c114, c115, c116, c117, c118, c119, c120, c121, c122, c123, c124, c125, c126, c127, c128, c129, c130, c131, c132, c133, c134, c135, c136, c137, c138, c139, c140, c141, c142, c143, c144, c145, c146, c147, c148, c149, c150, c151, c152, c153, c154, c155, c156, c157, c158, c159, c160, c161, c162, c163, c164, c165, c166, c167, c168, c169, c170, c171, c172, c173, c174, c175, c176, c177, c178, c179, c180, c181, c182, c183, c184, c185, c186, c187, c188, c189, c190, c191, c192, c193, c194, c195, c196, c197, c198, c199, c200, c201, c202, c203, c204, c205, c206, c207, c208, c209, c210, c211, c212, c213, c214, c215, c216, c217, c218, c219, c220, c221, c222, c223, c224, c225, c226, c227, c228, c229, c230, c231, c232, c233, c234, c235, c236, c237, c238, c239, c240, c241, c242, c243, c244, c245, c246, c247, c248, c249, c250, c251, c252, c253, c254, c255, c256, c257, c258, c259, c260, c261, c262, c263, c264, c265, c266, c267, c268, c269, c270, c271, c272, c273, c274, c275, c276, c277, c278, c279, c280, c281, c282, c283, c284, c285, c286, c287, c288, c289, c290, c291, c292, c293, c294, c295, c296, c297, c298, c299, c300, c301, c302, c303, c304, c305, c306, c307, c308, c309, c310, c311, c312, c313, c314, c315, c316, c317, c318, c319, c320, c321, c322, c323, c324, c325, c326, c327, c328, c329, c330, c331, c332, c333, c334, c335, c336, c337, c338, c339, c340, c341, c342, c343, c344, c345, c346, c347, c348, c349, c350, c351, c352, c353, c354, c355, c356, c357, c358, c359, c360, c361, c362, c363, c364, c365, c366, c367, c368, c369, c370, c371, c372, c373, c374, c375, c376, c377, c378, c379, c380, c381, c382, c383, c384, c385, c386, c387, c388], []⟩ wP := by
  intro Q' K hK
  conv => arg 2; whnf
  conv at hK => enter [a, w, 1, 2]; whnf
  go_wp2_with fail
  have hcall := by
    refine zzeachHolder wP (wD.heap.size + 1) wD.heap.size wB.heap.size wA.heap.size wF.heap.size n nl m h T fr pu re ho hoT f seq (s0 f (seq m) sp) ?_ HC.out.1 (s0_ok f m seq (seq m) sp) rfl Hho.out ⟨n1, nl1, hmn⟩ rfl
    rw [(s0_real f seq (seq m) sp).1, (s0_real f seq (seq m) sp).2, HC.out.2]
    exact HE.out.1.later HP.out.2.2
  have hrun : runs T f seq (st2 T ho hoT (st1 T h fr pu re (s0 f (seq m) sp))) m = s := by
    have e := HS.out
    unfold sB at e
    rw [e]; exact Hs.out
  rw [hrun] at hcall
  refine hcall.mono ?_
  clear hcall hrun
  rintro e w1 ⟨v, rfl, hgot, hg5, hfr⟩
  obtain ⟨hZ1, hZ2, hZ3⟩ := HZ.out
  obtain ⟨l1, l2, l3, l4, l5⟩ := HE.out.1.lts
  have hsE : wE.heap.size ≤ wP.heap.size := HP.out.2.2.size
  have hJP : wJ.heap.size < wP.heap.size := HP.out.2.1.lt
  have hEP : wE.heap.size < wP.heap.size := HP.out.1.lt
  have HW1 : Hid (Below w.heap.size w w1) := HE2.out.1.trans ((HP.out.2.2.mono (by omega)).trans (hfr.below (by omega) (by omega) (by omega) (by omega)))
  have hr1 := HP.out.1.same (hfr.block _ hEP (by omega) (by omega) (by omega))
  have hr2 := HP.out.2.1.same (hfr.block _ hJP (by omega) (by omega) (by omega))
  have HI1 : Hid (Ints w1 v s.nw s.wf) := hgot.ints
  have HI2 : Hid (Ints w1 (.slice (some ⟨wE.heap.size, 0, none⟩) s.nw (m + 2)) s.nw s.wf) := hr1.ints
  have hnw : s.nw ≤ 9223372036854775807 := by
    have h1 := runs_nw T f seq S m
    have h2 := HSf.out.2.2.2.2.1
    rw [Hs.out] at h1
    omega
  have HG1 : Hid (G5 w1 (wD.heap.size + 1) wD.heap.size wB.heap.size wA.heap.size wF.heap.size n nl h T fr pu re ho hoT (headOf seq m s) (real f seq m s) s.spare ∧ Row w1 wJ.heap.size nl nl (fun i => real f seq m s i 3)) := ⟨hg5, hr2⟩
  clear hgot hg5 hfr hr1 hr2 l1 l2 l3 l4 l5 hZ1 hZ2 hZ3 hsE hJP hEP hne
  go_wp2_with fail
  refine (sameInt32s_eq w1 v _ s.nw s.wf hnw HI1.out HI2.out).mono ?_
  rintro e w2 ⟨rfl, hb2⟩
  have HW2 : Hid (Below w.heap.size w w2) := HW1.out.trans (hb2.mono HW1.out.size)
  have HG2 : Hid (G5 w2 (wD.heap.size + 1) wD.heap.size wB.heap.size wA.heap.size wF.heap.size n nl h T fr pu re ho hoT (headOf seq m s) (real f seq m s) s.spare ∧ Row w2 wJ.heap.size nl nl (fun i => real f seq m s i 3)) := ⟨HG1.out.1.later hb2, HG1.out.2.later hb2⟩
  clear hb2 HW1 HG1 HI1 HI2 hnw
  go_wp2_with fail
  refine (holdsHead HG2.out.1).mono ?_
  rintro e w3 ⟨rfl, rfl⟩
  go_wp2_with fail
  refine (spare5 HG2.out.1).mono ?_
  rintro e w3 ⟨rfl, rfl⟩
  go_wp2
  go_loopg [43] nl (fun k v43 wr => ∃ i : Nat, k + i = nl ∧ v43 = .int .i64 i ∧ Below w2.heap.size w2 wr)
  case atStart => exact ⟨0, by omega, rfl, Below.refl _ _⟩
  obtain ⟨i, hk, rfl, hbel⟩ := hrel
  have HB : Hid (Below w2.heap.size w2 wr) := hbel
  clear hbel
  by_cases hi : i < nl
  · obtain ⟨bb, off, rfl, hbF, hcs⟩ := (Hq.out.later HW2.out) (by omega)
    obtain ⟨q0, q1, q2, _, _, _⟩ := hcs i hi
    obtain ⟨z, hz⟩ : ∃ z, real f seq m s i 3 = z := ⟨_, rfl⟩
    have zx := HG2.out.2.cell hi
    rw [hz] at zx
    have hJ : wJ.heap.size < w2.heap.size := HG2.out.2.lt
    have HQ : Hid (w2.cell? ⟨bb, off + i * 4, none⟩ = some (.int .i32 (f i 0)) ∧ w2.cell? ⟨bb, off + i * 4 + 1, none⟩ = some (.int .i32 (f i 1)) ∧ w2.cell? ⟨bb, off + i * 4 + 2, none⟩ = some (.int .i32 (f i 2)) ∧ w2.cell? ⟨wJ.heap.size, i, none⟩ = some (.int .i32 z)) := ⟨q0, q1, q2, zx⟩
    have Hz : Hid (real f seq m s i 3 = z) := hz
    clear q0 q1 q2 zx hz hcs
    go_wp2_with fail
    have hcall := linkAt5 (HG2.out.1.later HB.out) i hi
    rw [show real f seq m s i 0 = f i 0 by simp [real], show real f seq m s i 1 = f i 1 by simp [real], show real f seq m s i 2 = f i 2 by simp [real], Hz.out] at hcall
    refine hcall.mono ?_
    clear hcall
    rintro e w3 ⟨rfl, hb3⟩
    have hb4 : Below w2.heap.size w2 w3 := HB.out.trans (hb3.mono HB.out.size)
    have q0 := (hb4.cell (p := ⟨bb, off + i * 4, none⟩) hbF).trans HQ.out.1
    have q1 := (hb4.cell (p := ⟨bb, off + i * 4 + 1, none⟩) hbF).trans HQ.out.2.1
    have q2 := (hb4.cell (p := ⟨bb, off + i * 4 + 2, none⟩) hbF).trans HQ.out.2.2.1
    have zx := (hb4.cell (p := ⟨wJ.heap.size, i, none⟩) hJ).trans HQ.out.2.2.2
    have HB4 : Hid (Below w2.heap.size w2 w3) := hb4
    clear hb3 hb4
    go_wp2
    go_roundg (gk - 1)
    case measure => omega
    case rel => exact ⟨i + 1, by omega, by go_num, HB4.out⟩
  go_wp2
  go_ret
  exact ⟨rfl, HW2.out.trans (HB.out.mono HW2.out.size)⟩
end Go.Proofs.Qxb6614451a
