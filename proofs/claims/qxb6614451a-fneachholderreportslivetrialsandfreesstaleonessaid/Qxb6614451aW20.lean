/- The law makes the graph. -/
import Derived.Test.Qxb6614451aW19
namespace Go.Proofs.Qxb6614451a
open Go.RowKit

set_option maxRecDepth 100000 in
set_option maxHeartbeats 8000000 in
theorem part25 {c10 c11 c12 c13 c14 c15 c16 c17 c18 c19 c20 c23 c25 c27 c28 c29 c30 c31 c32 c33 c34 c35 c36 c37 c38 c39 c40 c41 c42 c43 c44 c45 c46 c47 c48 c49 c50 c51 c52 c53 c54 c55 c56 c57 c58 c59 c60 c61 c62 c63 c64 c65 c66 c67 c68 c69 c70 c71 c72 c73 c74 c75 c76 c77 c78 c79 c80 c81 c82 c83 c84 c85 c86 c87 c88 c89 c90 c91 c92 c93 c94 c95 c96 c97 c98 c99 c100 c101 c102 c103 c104 c105 c106 c107 c108 c109 c110 c111 c112 c113 c114 c115 c116 c117 c118 c119 c120 c121 c122 c123 c124 c125 c126 c127 c128 c129 c130 c131 c132 c133 c134 c135 c136 c137 c138 c139 c140 c141 c142 c143 c144 c145 c146 c147 c148 c149 c150 c151 c152 c153 c154 c155 c156 c157 c158 c159 c160 c161 c162 c163 c164 c165 c166 c167 c168 c169 c170 c171 c172 c173 c174 c175 c176 c177 c178 c179 c180 c181 c182 c183 c184 c185 c186 c187 c188 c189 c190 c191 c192 c193 c194 c195 c196 c197 c198 c199 c200 c201 c202 c203 c204 c205 c206 c207 c208 c209 c210 c211 c212 c213 c214 c215 c216 c217 c218 c219 c220 c221 c222 c223 c224 c225 c226 c227 c228 c229 c230 c231 c232 c233 c234 c235 c236 c237 c238 c239 c240 c241 c242 c243 c244 c245 c246 c247 c248 c249 c250 c251 c252 c253 c254 c255 c256 c257 c258 c259 c260 c261 c262 c263 c264 c265 c266 c267 c268 c269 c270 c271 c272 c273 c274 c275 c276 c277 c278 c279 c280 c281 c282 c283 c284 c285 c286 c287 c288 c289 c290 c291 c292 c293 c294 c295 c296 c297 c298 c299 c300 c301 c302 c303 c304 c305 c306 c307 c308 c309 c310 c311 c312 c313 c314 c315 c316 c317 c318 c319 c320 c321 c322 c323 c324 c325 c326 c327 c328 c329 c330 c331 c332 c333 c334 c335 c336 c337 c338 c339 c340 c341 c342 c343 c344 c345 c346 c347 c348 c349 c350 c351 c352 c353 c354 c355 c356 c357 c358 c359 c360 c361 c362 c363 c364 c365 c366 c367 c368 c369 c370 c371 c372 c373 c374 c375 c376 c377 c378 c379 c380 c381 c382 c383 c384 c385 c386 c387 c388 : Value} (a : Option Addr) (n cap : Nat) (T : Nat → Int) (h : Nat) (pu re fr : Bool) (ho hoT hd : Int) (b : Option Addr) (nl cap2 : Nat) (f : Nat → Nat → Int) (sp : Int) (w : World) (m : Nat) (seq : Nat → Int) (wA : World) (n1 : n ≤ 65536) (nl1 : nl ≤ 65536) (hhn : h < n) (hmn : m ≤ nl) (Hho : Hid (hoT ≠ 0 → 0 ≤ ho ∧ ho < n)) (Hp : Hid (TriesAt w a n T)) (Hq : Hid (LinksAt w b nl f)) (HC : Hid (Chain f n nl m seq ∧ seq 0 = hd)) (HA : Hid (Row wA (w.heap.size + 1) nl m seq ∧ Below w.heap.size w wA)) :
    let Q' : Exit → Act → World → Prop := bodyPost Try.prog Try.f5 (fun e w' => e = .returned (.bool true) ∧ Below w.heap.size w w')
    ∀ K : Act → World → Prop, (∀ a w, Code.wp Try.prog (tailFrom 26 body5) Q' a w → K a w) → Code.wp Try.prog (pieceAt 25 body5) (Exit.then K Q') ⟨#[.slice a n cap, .int .i32 h, .bool pu, .bool re, .bool fr, .int .i32 ho, .int .i32 hoT, .int .i32 hd, .slice b nl cap2, .int .i32 sp, c10, c11, c12, c13, c14, c15, c16, c17, c18, c19, c20, .int .i64 n, .int .i64 nl, c23, .slice (some ⟨w.heap.size + 1, 0, none⟩) m nl, c25, .int .i32 (seq m), c27, c28, c29, c30, c31, c32, c33, c34, c35, c36, c37, c38, c39, c40, c41, c42, c43, c44, c45, c46, c47, c48, c49, c50, c51, c52, c53, c54, c55, c56, c57, c58, c59, c60, c61, c62, c63, c64, c65, c66, c67, c68, c69, c70, c71, c72, c73, c74, c75, c76, c77, c78, c79, c80, c81, c82, c83, c84, c85, c86, c87, c88, c89, c90, c91, c92, c93, c94, c95, c96, c97, c98, c99, c100, c101, c102, c103, c104, c105, c106, c107, c108, c109, c110, c111, c112, c113, c114, c115, c116, c117, c118, c119, c120, c121, c122, c123, c124, c125, c126, c127, c128, c129, c130, c131, c132, c133, c134, c135, c136, c137, c138, c139, c140, c141, c142, c143, c144, c145, c146, c147, c148, c149, c150, c151, c152, c153, c154, c155, c156, c157, c158, c159, c160, c161, c162, c163, c164, c165, c166, c167, c168, c169, c170, c171, c172, c173, c174, c175, c176, c177, c178, c179, c180, c181, c182, c183, c184, c185, c186, c187, c188, c189, c190, c191, c192, c193, c194, c195, c196, c197, c198, c199, c200, c201, c202, c203, c204, c205, c206, c207, c208, c209, c210, c211, c212, c213, c214, c215, c216, c217, c218, c219, c220, c221, c222, c223, c224, c225, c226, c227, c228, c229, c230, c231, c232, c233, c234, c235, c236, c237, c238, c239, c240, c241, c242, c243, c244, c245, c246, c247, c248, c249, c250, c251, c252, c253, c254, c255, c256, c257, c258, c259, c260, c261, c262, c263, c264, c265, c266, c267, c268, c269, c270, c271, c272, c273, c274, c275, c276, c277, c278, c279, c280, c281, c282, c283, c284, c285, c286, c287, c288, c289, c290, c291, c292, c293, c294, c295, c296, c297, c298, c299, c300, c301, c302, c303, c304, c305, c306, c307, c308, c309, c310, c311, c312, c313, c314, c315, c316, c317, c318, c319, c320, c321, c322, c323, c324, c325, c326, c327, c328, c329, c330, c331, c332, c333, c334, c335, c336, c337, c338, c339, c340, c341, c342, c343, c344, c345, c346, c347, c348, c349, c350, c351, c352, c353, c354, c355, c356, c357, c358, c359, c360, c361, c362, c363, c364, c365, c366, c367, c368, c369, c370, c371, c372, c373, c374, c375, c376, c377, c378, c379, c380, c381, c382, c383, c384, c385, c386, c387, c388], []⟩ wA := by
  intro Q' K hK
  conv => arg 2; whnf
  conv at hK => enter [a, w, 1, 2]; whnf
  go_wp2_with fail
  refine (zzmakeMembers wA n (by omega)).mono ?_
  rintro e wM ⟨rfl, C, rfl, hCs⟩
  have HCs : Hid _ := hCs
  clear hCs
  go_wp2
  go_loopg [28] n (fun k v28 wr => ∃ i : Nat, k + i = n ∧ v28 = .int .i64 i ∧ Mem2 wr wA.heap.size n i h T pu re ho hoT hd ∧ Below wA.heap.size wA wr)
  case atStart => exact ⟨0, by omega, rfl, ⟨C, heap_alloc_new _ _, HCs.out, fun k hk => by omega⟩, (Below.refl _ _).alloc (Nat.le_refl _) _⟩
  obtain ⟨i, hk, rfl, hM, hbel⟩ := hrel
  by_cases hi : i < n
  · obtain ⟨bb, off, rfl, hct⟩ := ((Hp.out.later HA.out.2).later (hbel.mono (Nat.le_refl _))).at hi
    have HM : Hid (Mem2 wr wA.heap.size n i h T pu re ho hoT hd) := hM
    have HB : Hid (Below wA.heap.size wA wr) := hbel
    have hlt : wA.heap.size < wr.heap.size := hM.lt
    clear hM hbel HCs
    by_cases hih : h = i
    · subst hih
      go_wp2_with fail
      refine (zzmember _ (T h) pu re ho hoT hd).mono ?_
      rintro e w1 ⟨rfl, hb1⟩
      have M1 := HM.out.same (hb1.block _ hlt)
      have HT : Hid (w1.there wA.heap.size (h * 11) 11) := M1.there hi
      have HM1 : Hid (Mem2 w1 wA.heap.size n h h T pu re ho hoT hd) := M1
      have HB1 : Hid (Below wA.heap.size wA w1) := HB.out.trans (hb1.mono (by omega))
      clear M1 hb1 hct
      go_wp2_with ((with_reducible show wpList _ _ _ (⟨_, .store 42 _ _, _, _, _, _⟩ :: _) _ _); refine wpList_store_mid rfl 42 (.tmp 169) (.tmp 168) rfl wA.heap.size (h * 11) #[.int .i32 0, .int .i32 (T h), .int .i32 0, .int .i32 ho, .int .i32 hoT, .int .i32 hd, .int .i32 0, .bool false, .bool pu, .bool re, .bool false] rfl rfl HT.out Try.size42 (one11 _ _ _ _ _ _) ?_)
      go_roundg (gk - 1)
      case measure => omega
      case rel => exact ⟨h + 1, by omega, by go_num, HM1.out.step hi [.int .i32 0, .int .i32 (T h), .int .i32 0, .int .i32 ho, .int .i32 hoT, .int .i32 hd, .int .i32 0, .bool false, .bool pu, .bool re, .bool false] rfl rfl (fun _ => ⟨rfl, rfl, rfl, rfl, rfl⟩), HB1.out.trans (put_below (Nat.le_refl _) _ _ _)⟩
    · have hih2 : ¬ ((i : Int) = (h : Int)) := by omega
      go_wp2_with fail
      refine (zzmember _ (T i) false false 0 0 (-1)).mono ?_
      rintro e w1 ⟨rfl, hb1⟩
      have M1 := HM.out.same (hb1.block _ hlt)
      have HT : Hid (w1.there wA.heap.size (i * 11) 11) := M1.there hi
      have HM1 : Hid (Mem2 w1 wA.heap.size n i h T pu re ho hoT hd) := M1
      have HB1 : Hid (Below wA.heap.size wA w1) := HB.out.trans (hb1.mono (by omega))
      clear M1 hb1 hct
      go_wp2_with ((with_reducible show wpList _ _ _ (⟨_, .store 42 _ _, _, _, _, _⟩ :: _) _ _); refine wpList_store_mid rfl 42 (.tmp 177) (.tmp 176) rfl wA.heap.size (i * 11) #[.int .i32 0, .int .i32 (T i), .int .i32 0, .int .i32 0, .int .i32 0, .int .i32 (-1), .int .i32 0, .bool false, .bool false, .bool false, .bool false] rfl rfl HT.out Try.size42 (one11 _ _ _ _ _ _) ?_)
      go_roundg (gk - 1)
      case measure => omega
      case rel => exact ⟨i + 1, by omega, by go_num, HM1.out.step hi [.int .i32 0, .int .i32 (T i), .int .i32 0, .int .i32 0, .int .i32 0, .int .i32 (-1), .int .i32 0, .bool false, .bool false, .bool false, .bool false] rfl rfl (fun e => absurd e.symm hih), HB1.out.trans (put_below (Nat.le_refl _) _ _ _)⟩
  have ein : n = i := by omega
  subst ein
  have HB2 : Hid (Mem2 wr wA.heap.size n n h T pu re ho hoT hd ∧ Below wA.heap.size wA wr) := ⟨hM, hbel⟩
  clear hM hbel HCs hk hi
  obtain ⟨wB, rfl⟩ : ∃ wB : World, wB = wr := ⟨_, rfl⟩
  have hmb : ∀ w : World, (Instr.makeSlice 34 (.int .i64 (n : Int)) (.int .i64 (n : Int))).run Try.prog w = .ok (.slice (some ⟨w.heap.size, 0, none⟩) n n) (w.alloc (.cells (madeCells #[.bool false] n) 4)) := fun w => by
    have := make_cap (P := Try.prog) 34 4 _ 1 1 Try.underlying34 Try.info4 .i64 .i64 n n (Nat.le_refl _) (by omega) (by omega) w
    rw [Nat.mul_one] at this
    exact this
  have hrb := rowB_made wB n (by unfold maxLen; omega)
  rw [Nat.mul_one] at hrb
  have z1 := hrb.cell hhn
  have y1 := hrb.frozen h
  clear hrb
  go_wp2_with fail
  clear hmb z1 y1
  obtain ⟨wF, hwF⟩ : ∃ wF, wB.alloc (.cells ((madeCells #[.bool false] n).setIfInBounds h (.bool fr)) 4) = wF := ⟨_, rfl⟩
  rw [hwF]
  have HwF : Hid (wB.alloc (.cells ((madeCells #[.bool false] n).setIfInBounds h (.bool fr)) 4) = wF) := hwF
  have HF : Hid (Below w.heap.size w wF ∧ Below wA.heap.size wA wF) := by
    have s1 : w.heap.size ≤ wA.heap.size := HA.out.2.size
    have s2 : wA.heap.size ≤ wB.heap.size := HB2.out.2.size
    have b1 : Below wA.heap.size wA wF := by
      rw [← hwF]
      exact HB2.out.2.alloc s2 _
    exact ⟨HA.out.2.trans (b1.mono s1), b1⟩
  clear hwF
  refine (zzmakeLinks wF nl (by omega)).mono ?_
  rintro e wM ⟨rfl, C, rfl, hCs⟩
  have HCs : Hid _ := hCs
  clear hCs
  go_wp2
  go_loopg [31] nl (fun k v31 wr => ∃ i : Nat, k + i = nl ∧ v31 = .int .i64 i ∧ Mem3 wr wF.heap.size nl i f ∧ Below wF.heap.size wF wr)
  case atStart => exact ⟨0, by omega, rfl, ⟨C, heap_alloc_new _ _, HCs.out, fun k j hk => by omega⟩, (Below.refl _ _).alloc (Nat.le_refl _) _⟩
  obtain ⟨i, hk, rfl, hM, hbel⟩ := hrel
  by_cases hi : i < nl
  · obtain ⟨bb, off, rfl, hbF, hcs⟩ := (Hq.out.later HF.out.1) (by omega)
    obtain ⟨q0, q1, q2, q3, _, _⟩ := hcs i hi
    replace q0 := (hbel.cell (p := ⟨bb, off + i * 4, none⟩) hbF).trans q0
    replace q1 := (hbel.cell (p := ⟨bb, off + i * 4 + 1, none⟩) hbF).trans q1
    replace q2 := (hbel.cell (p := ⟨bb, off + i * 4 + 2, none⟩) hbF).trans q2
    replace q3 := (hbel.cell (p := ⟨bb, off + i * 4 + 3, none⟩) hbF).trans q3
    have hbb : bb < wr.heap.size := Nat.lt_of_lt_of_le hbF hbel.size
    have hbne : ¬ bb = wF.heap.size := by omega
    have hbne2 : ¬ wF.heap.size = bb := by omega
    have HM : Hid (Mem3 wr wF.heap.size nl i f) := hM
    have HB : Hid (Below wF.heap.size wF wr) := hbel
    have hlt : wF.heap.size < wr.heap.size := hM.lt
    clear hM hbel HCs hcs
    go_upto_region 38 with fail
    have hi0 : (0 : Int) ≤ (i : Int) := by omega
    have hi1 : (i : Int) < (nl : Int) := by omega
    go_region_held3 (fun w' => w'.cell? ⟨bb, off + i * 4, none⟩ = some (.int .i32 (f i 0)) ∧ w'.cell? ⟨bb, off + i * 4 + 1, none⟩ = some (.int .i32 (f i 1)) ∧ w'.cell? ⟨bb, off + i * 4 + 2, none⟩ = some (.int .i32 (f i 2)) ∧ w'.cell? ⟨bb, off + i * 4 + 3, none⟩ = some (.int .i32 (f i 3))) (go_keep)
      ((go_at_call 18; refine (zzlinkOf _ _ _ _ _).mono ?_; rintro e w1 ⟨rfl, hb1⟩; have k0 := (hb1.cell (p := ⟨bb, off + i * 4, none⟩) hbb).trans q0; have k1 := (hb1.cell (p := ⟨bb, off + i * 4 + 1, none⟩) hbb).trans q1; have k2 := (hb1.cell (p := ⟨bb, off + i * 4 + 2, none⟩) hbb).trans q2; have k3 := (hb1.cell (p := ⟨bb, off + i * 4 + 3, none⟩) hbb).trans q3; have M1 : Mem3 w1 wF.heap.size nl i f := HM.out.same (hb1.block wF.heap.size hlt); have ht := M1.there hi; obtain ⟨x0, d0⟩ := Option.isSome_iff_exists.1 (ht 0 (by omega)).1; obtain ⟨x1, d1⟩ := Option.isSome_iff_exists.1 (ht 1 (by omega)).1; obtain ⟨x2, d2⟩ := Option.isSome_iff_exists.1 (ht 2 (by omega)).1; obtain ⟨x3, d3⟩ := Option.isSome_iff_exists.1 (ht 3 (by omega)).1; replace d0 : w1.cell? ⟨wF.heap.size, i * 4, none⟩ = some x0 := d0; have f0 : w1.frozen? ⟨wF.heap.size, i * 4, none⟩ = false := (ht 0 (by omega)).2; have f1 := (ht 1 (by omega)).2; have f2 := (ht 2 (by omega)).2; have f3 := (ht 3 (by omega)).2; have HM1 : Hid (Mem3 w1 wF.heap.size nl i f) := M1; have HB1 : Hid (Below wF.heap.size wF w1) := HB.out.trans ⟨hb1.os, hb1.tape, hb1.output, hb1.size, fun b hb => hb1.block b (Nat.lt_trans hb hlt)⟩; clear M1 hb1 ht))
    go_wp2
    go_roundg (gk - 1)
    case measure => omega
    case rel => exact ⟨i + 1, by omega, by go_num, HM1.out.step hi, HB1.out.trans (put_below (Nat.le_refl _) [.int .i32 (f i 0), .int .i32 (f i 1), .int .i32 (f i 2), .int .i32 (f i 3)] _ _)⟩
  have ein : nl = i := by omega
  subst ein
  have HD : Hid (Mem3 wr wF.heap.size nl nl f ∧ Below wF.heap.size wF wr) := ⟨hM, hbel⟩
  clear hM hbel HCs hk hi
  obtain ⟨wD, rfl⟩ : ∃ wD : World, wD = wr := ⟨_, rfl⟩
  go_wp2_with fail
  refine (zzgraphOf wD _ _ _ n n nl sp).mono ?_
  rintro e wE ⟨rfl, R, G, hwE, hRs, r0, hG, g0, g6, g12, g13⟩
  have HE : Hid (G5 wE (wD.heap.size + 1) wD.heap.size wB.heap.size wA.heap.size wF.heap.size n nl h T fr pu re ho hoT hd f sp ∧ Below wD.heap.size wD wE) := by
    have hsF : wF.heap.size = wB.heap.size + 1 := by rw [← HwF.out]; simp
    refine ⟨?_, by rw [hwE]; exact ((Below.refl _ _).alloc (Nat.le_refl _) _).alloc (by simp) _⟩
    rw [hwE, hsF]
    refine g5_made (A := (madeCells #[.bool false] n).setIfInBounds h (.bool fr)) hhn ?_ HB2.out.1 ?_ ?_ r0 hG g0 g6 (by rw [g12, hsF]) g13
    · simp [size_madeCells, hhn]
    · rw [HwF.out, ← hsF]; exact HD.out.2
    · rw [← hsF]; exact HD.out.1
  have HE2 : Hid (Below w.heap.size w wE ∧ Below wA.heap.size wA wE) := by
    have s1 : w.heap.size ≤ wF.heap.size := HF.out.1.size
    have s2 : wA.heap.size ≤ wF.heap.size := HF.out.2.size
    have s3 : wF.heap.size ≤ wD.heap.size := HD.out.2.size
    have b1 : Below wF.heap.size wF wE := HD.out.2.trans (HE.out.2.mono s3)
    exact ⟨HF.out.1.trans (b1.mono s1), HF.out.2.trans (b1.mono s2)⟩
  have HZ : Hid (w.heap.size ≤ wA.heap.size ∧ wA.heap.size ≤ wF.heap.size ∧ wF.heap.size ≤ wD.heap.size) := ⟨HA.out.2.size, HF.out.2.size, HD.out.2.size⟩
  clear hwE hRs r0 hG g0 g6 g12 g13 R G HD HF HwF HB2
  go_upto_region 40 with fail
  refine part40 a n cap T h pu re fr ho hoT hd b nl cap2 f sp w m seq wA wB wD wE wF n1 nl1 hhn hmn Hho Hp Hq HC HA HE HE2 HZ _ ?_
  assumption
end Go.Proofs.Qxb6614451a
