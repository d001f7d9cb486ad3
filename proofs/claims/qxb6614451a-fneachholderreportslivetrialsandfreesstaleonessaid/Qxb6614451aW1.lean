/- The graph's own functions. -/
import Derived.Test.Qxb6614451aW0
namespace Go.Proofs.Qxb6614451a
open Go.RowKit

theorem below_drewN {B : Nat} {w : World} (m : Nat) : Below B w (w.drewN m) := by
  induction m with
  | zero => exact Below.refl _ _
  | succ m ih => exact ih.drew

theorem newGraph (w : World) : Calls Try.prog 8 #[] w fun e w' => e = .returned (.pointer (some ⟨w.heap.size, 0, none⟩)) ∧ ∃ C, w' = w.alloc (.cells C 64) ∧ C.size = 23 ∧ C[12]? = some (.slice none 0 0) ∧ C[13]? = some (.int .i32 (-1)) := by
  go_enter Try.func8, Try.ntmps8
  go_wp2
  go_ret
  exact ⟨rfl, _, rfl, rfl, rfl, rfl⟩

theorem linkCount (w : World) (g B : Nat) (lv : Value) (n : Nat) (f : Nat → Nat → Int) (s : Int) (h : Graph w g B lv n f s) :
    Calls Try.prog 10 #[.pointer (some ⟨g, 0, none⟩)] w fun e w' => e = .returned (.int .i64 n) ∧ w = w' := by
  obtain ⟨a, cap, rfl⟩ := h.ents.shape
  have c12 := h.head.c12
  go_enter Try.func10, Try.ntmps10
  go_wp2
  go_ret
  exact ⟨rfl, rfl⟩

theorem results_tmp4 {fn : Func} {a b c d : Tmp} (h : fn.results = #[.tmp a, .tmp b, .tmp c, .tmp d]) (tmps : Array Value) (P : Program) (w : World) :
    (results fn tmps).run P w = .ok (.tuple #[tmps.getD a undef, tmps.getD b undef, tmps.getD c undef, tmps.getD d undef]) w := by
  simp [results, h]

theorem linkAt (w : World) (g B : Nat) (lv : Value) (n : Nat) (f : Nat → Nat → Int) (s : Int) (h : Graph w g B lv n f s) (k : Nat) (hk : k < n) (h31 : n ≤ 2147483647) :
    Calls Try.prog 11 #[.pointer (some ⟨g, 0, none⟩), .int .i32 k] w fun e w' => e = .returned (.tuple #[.int .i32 (f k 0), .int .i32 (f k 1), .int .i32 (f k 2), .int .i32 (f k 3)]) ∧ Below w.heap.size w w' := by
  obtain ⟨l, cap, rfl, hBl, hl⟩ := h.ents.form (by omega)
  have c12 := h.head.c12
  have e0 : w.cell? ⟨l, k * 4, none⟩ = _ := h.ents.cell hk (j := 0) (by omega)
  have e1 := h.ents.cell hk (j := 1) (by omega)
  have e2 := h.ents.cell hk (j := 2) (by omega)
  have e3 := h.ents.cell hk (j := 3) (by omega)
  clear h
  go_enter Try.func11, Try.ntmps11
  go_wp2
  go_quiet (fail)
  go_wp2
  refine bodyPost_ret (results_tmp4 rfl _ _ _) rfl ?_
  exact ⟨rfl, ((Below.refl _ _).alloc (Nat.le_refl _) _).trans (below_drewN _)⟩

set_option maxHeartbeats 400000 in
theorem link_reuse (w : World) (g B : Nat) (lv : Value) (n : Nat) (f : Nat → Nat → Int) (s : Nat) (h : Graph w g B lv n f s) (hs : s < n) (h31 : n ≤ 2147483647) (c t m x : Int) :
    Calls Try.prog 27 #[.pointer (some ⟨g, 0, none⟩), .agg #[.int .i32 c, .int .i32 t, .int .i32 m, .int .i32 x]] w fun e w' => e = .returned (.int .i32 s) ∧ Graph w' g B lv n (updE f s c t m x) (f s 3) ∧ Off w w' g lv.ownBlock := by
  obtain ⟨l, cap, rfl, hBl, hl⟩ := h.ents.form (by omega)
  have hgl := h.head.lt
  have hgB := h.lt
  have c12 := h.head.c12
  have c13 := h.head.c13
  have f12 := h.head.fz 12
  have f13 := h.head.fz 13
  have e0 : w.cell? ⟨l, s * 4, none⟩ = _ := h.ents.cell hs (j := 0) (by omega)
  have e1 := h.ents.cell hs (j := 1) (by omega)
  have e2 := h.ents.cell hs (j := 2) (by omega)
  have e3 := h.ents.cell hs (j := 3) (by omega)
  have g0 : w.frozen? ⟨l, s * 4, none⟩ = _ := h.ents.fz (s * 4)
  have g1 := h.ents.fz (s * 4 + 1)
  have g2 := h.ents.fz (s * 4 + 2)
  have g3 := h.ents.fz (s * 4 + 3)
  have hG : Hid (Graph w g B (Value.slice (some { block := l, off := 0 }) n cap) n f s) := h
  clear h
  have hne : g ≠ l := by omega
  go_enter Try.func27, Try.ntmps27
  go_wp2
  go_region
  go_wp2
  go_ret
  refine ⟨rfl, ?_, ?_⟩
  · have h : Graph w g B (Value.slice (some { block := l, off := 0 }) n cap) n f s := hG
    refine ((((((h.setSpare (f s 3)).setE hs (m := 0) (by omega) c).setE hs (m := 1) (by omega) t).setE hs (m := 2) (by omega) m).setE hs (m := 3) (by omega) x).alloc _).drew.congr ?_
    intro i j hi hj
    have : j = 0 ∨ j = 1 ∨ j = 2 ∨ j = 3 := by omega
    rcases this with rfl | rfl | rfl | rfl <;> by_cases hk : i = s <;> simp [updE, hk]
  · exact (((((((Off.refl _ _ _).setg 13 _).seto (l := l) _ _).seto _ _).seto _ _).seto _ _).alloc _).drew

theorem grow_done {w w1 : World} {g B : Nat} {lv lv' : Value} {n : Nat} {f : Nat → Nat → Int} {s : Int} {xs : List Value} {c t m x : Int} (hG : Graph w g B lv n f s) (hh : w1.heap[g]? = w.heap[g]?) (hoff : Off w w1 g lv.ownBlock)
    (hown : w1.ownsRow B 47 4 lv' (n + 1) (xs ++ [.int .i32 c, .int .i32 t, .int .i32 m, .int .i32 x])) (hl : xs.length = n * 4) (hX : ∀ i j, i < n → j < 4 → xs[i * 4 + j]? = some (.int .i32 (f i j))) :
    Graph (w1.setCell ⟨g, 12, none⟩ lv') g B lv' (n + 1) (updE f n c t m x) s ∧ Off w (w1.setCell ⟨g, 12, none⟩ lv') g lv.ownBlock := by
  have he := Entries.push (f := f) hown hl hX
  refine ⟨⟨(hG.head.same hh).links lv', he.same (fun k hk => heap_setCell_other w1 _ k _ (fun e => ?_)), hG.lt, by simpa using Nat.le_trans hG.le hoff.size⟩, hoff.setg 12 _⟩
  have := (he.lt k hk).1; have := hG.lt; simp at e; omega

set_option maxRecDepth 8000 in
set_option maxHeartbeats 400000 in
theorem link_grow (w : World) (g B : Nat) (lv : Value) (n : Nat) (f : Nat → Nat → Int) (s : Int) (h : Graph w g B lv n f s) (hs : s < 0) (h31 : n < 2147483647) (c t m x : Int) :
    Calls Try.prog 27 #[.pointer (some ⟨g, 0, none⟩), .agg #[.int .i32 c, .int .i32 t, .int .i32 m, .int .i32 x]] w fun e w' => e = .returned (.int .i32 n) ∧ (∃ lv', Graph w' g B lv' (n + 1) (updE f n c t m x) s) ∧ Off w w' g lv.ownBlock := by
  obtain ⟨i0, hi, hz0, hz1, hz2⟩ := info_parts Try.info47
  obtain ⟨xs, ho, hx⟩ := h.ents
  obtain ⟨aa, cap, rfl⟩ := h.ents.shape
  have hgl := h.head.lt
  have hgB := h.lt
  have c12 := h.head.c12
  have c13 := h.head.c13
  have f12 := h.head.fz 12
  have hG : Hid (Graph w g B (Value.slice aa n cap) n f s) := h
  have hO : Hid (w.ownsRow B 47 4 (Value.slice aa n cap) n xs) := ho
  have hX : Hid (∀ i j, i < n → j < 4 → xs[i * 4 + j]? = some (.int .i32 (f i j))) := hx
  have hle : Hid (B ≤ w.heap.size) := h.le
  clear h ho hx
  have hpre : Hid (∀ w1, ((w.alloc (.cells #[.int .i32 c, .int .i32 t, .int .i32 m, .int .i32 x] 47)).alloc (.cells #[.int .i32 c, .int .i32 t, .int .i32 m, .int .i32 x] 47)).drew.grownBy w1 (Value.slice aa n cap).ownBlock → w1.heap[g]? = w.heap[g]? ∧ Off w w1 g (Value.slice aa n cap).ownBlock ∧ w1.cell? ⟨g, 12, none⟩ = some (Value.slice aa n cap) ∧ w1.frozen? ⟨g, 12, none⟩ = false) := by
    intro w1 hg
    have e1 : w1.heap[g]? = w.heap[g]? := by
      rw [hg.block g (by simp; omega) (fun e => by have h1 := (Graph.ents hG).lt g e.symm; omega)]
      show ((w.alloc _).alloc _).heap[g]? = _
      rw [heap_alloc_old _ _ (by simp; omega), heap_alloc_old _ _ hgl]
    have h1 := (Graph.head hG).same e1
    exact ⟨e1, ((((Off.refl w g _).alloc _).alloc _).drew.trans (Off.ofGrown hg) (fun k hk => .inl hk)), h1.c12, h1.fz 12⟩
  have hnews : Hid (∀ j u, [Value.int .i32 c, .int .i32 t, .int .i32 m, .int .i32 x][j]? = some u → ((w.alloc (.cells #[.int .i32 c, .int .i32 t, .int .i32 m, .int .i32 x] 47)).alloc (.cells #[.int .i32 c, .int .i32 t, .int .i32 m, .int .i32 x] 47)).drew.cell? ((⟨w.heap.size + 1, 0, none⟩ : Addr).add j) = some u) :=
    World.news_of_block (w := ((w.alloc (.cells #[.int .i32 c, .int .i32 t, .int .i32 m, .int .i32 x] 47)).alloc (.cells #[.int .i32 c, .int .i32 t, .int .i32 m, .int .i32 x] 47)).drew) (heap_alloc2_new w _ _)
  have hone : Hid (∀ u ∈ [Value.int .i32 c, .int .i32 t, .int .i32 m, .int .i32 x], u.oneCell' = true) := by
    intro u hu; simp at hu; rcases hu with rfl | rfl | rfl | rfl <;> rfl
  have hmx : Hid (n + 1 ≤ maxLen) := by show _ ≤ _; unfold maxLen; omega
  have hby : Hid ((n + 1) * 16 ≤ 140737488355328) := by show _ ≤ _; omega
  have hBs : Hid (B ≤ ((w.alloc (.cells #[.int .i32 c, .int .i32 t, .int .i32 m, .int .i32 x] 47)).alloc (.cells #[.int .i32 c, .int .i32 t, .int .i32 m, .int .i32 x] 47)).drew.heap.size) := by
    have : B ≤ w.heap.size := hle
    show B ≤ ((w.alloc _).alloc _).heap.size
    simp; omega
  go_enter Try.func27, Try.ntmps27
  go_wp2
  go_region_law (refine step_append_lies _ rfl (.tmp 35) (.tmp 37) 44 rfl B 47 i0 _ 4 16 Try.underlying44 hi hz0 hz1 hz2 rfl (by decide) _ n xs (by simp [Act.eval]) (((World.ownsRow.alloc hO _).alloc _).drew) ⟨w.heap.size + 1, 0, none⟩ 1 1 [.int .i32 c, .int .i32 t, .int .i32 m, .int .i32 x] (by simp [Act.eval]) rfl hnews hone (by decide) hmx hby hBs _ rfl ?_; intro lb lcap w1 hown1 hgrow1 hat1 hlt1; obtain ⟨hh1, hoff1, hc1, hf1⟩ := hpre w1 hgrow1; have hD : Hid (_ ∧ _) := grow_done hG hh1 hoff1 hown1 (And.left hO) hX; clear hh1 hoff1 hown1 hgrow1 hat1)
  all_goals
    go_wp2
    go_ret
    exact ⟨rfl, ⟨_, hD.1⟩, hD.2⟩

/-- ZZlink. -/
theorem zzlink (w : World) (g B : Nat) (lv : Value) (n : Nat) (f : Nat → Nat → Int) (s : Int) (h : Graph w g B lv n f s) (hs : s < n) (h31 : n < 2147483647) (c t m x : Int) :
    Calls Try.prog 9 #[.pointer (some ⟨g, 0, none⟩), .int .i32 c, .int .i32 t, .int .i32 m, .int .i32 x] w fun e w' =>
      ∃ (k n' : Nat) (s' : Int) (lv' : Value), e = .returned (.int .i32 k) ∧ Graph w' g B lv' n' (updE f k c t m x) s' ∧ Off w w' g lv.ownBlock ∧ (0 ≤ s ∧ k = s.toNat ∧ n' = n ∧ s' = f k 3 ∨ s < 0 ∧ k = n ∧ n' = n + 1 ∧ s' = s) := by
  have hG : Hid (Graph w g B lv n f s) := h
  clear h
  go_enter Try.func9, Try.ntmps9
  go_wp2_with fail
  rcases (show s < 0 ∨ 0 ≤ s by omega) with hn | hp
  · refine (link_grow w g B lv n f s hG hn h31 c t m x).mono ?_
    rintro e w1 ⟨rfl, ⟨lv', hG'⟩, hoff⟩
    go_wp2
    go_ret
    exact ⟨n, n + 1, s, lv', rfl, hG', hoff, .inr ⟨hn, rfl, rfl, rfl⟩⟩
  · obtain ⟨q, rfl⟩ := Int.eq_ofNat_of_zero_le hp
    refine (link_reuse w g B lv n f q hG (by omega) (by omega) c t m x).mono ?_
    rintro e w1 ⟨rfl, hG', hoff⟩
    go_wp2
    go_ret
    exact ⟨q, n, f q 3, lv, rfl, hG', hoff, .inl ⟨hp, rfl, rfl, rfl⟩⟩

set_option maxHeartbeats 400000 in
theorem unlinkAt (w : World) (g B : Nat) (lv : Value) (n : Nat) (f : Nat → Nat → Int) (s : Int) (h : Graph w g B lv n f s) (d : Nat) (hd : d < n) (h31 : n ≤ 2147483647) (p : Nat) (hpg : p ≠ g) (hpl : some p ≠ lv.ownBlock) (hc : w.cell? ⟨p, 0, none⟩ = some (.int .i32 d)) (hf : w.frozen? ⟨p, 0, none⟩ = false) :
    Calls Try.prog 28 #[.pointer (some ⟨g, 0, none⟩), .pointer (some ⟨p, 0, none⟩)] w fun e w' => e = .returned (.int .i32 (f d 3)) ∧ Graph w' g B lv n (updN f d s) d ∧ (∀ b, b ≠ g → some b ≠ lv.ownBlock → b ≠ p → w'.heap[b]? = w.heap[b]?) ∧ w'.os = w.os ∧ w'.tape = w.tape ∧ w'.output = w.output ∧ w'.heap.size = w.heap.size := by
  obtain ⟨l, cap, rfl, hBl, hl⟩ := h.ents.form (by omega)
  have hgl := h.head.lt
  have hgB := h.lt
  have c12 := h.head.c12
  have c13 := h.head.c13
  have f12 := h.head.fz 12
  have f13 := h.head.fz 13
  have e0 : w.cell? ⟨l, d * 4, none⟩ = _ := h.ents.cell hd (j := 0) (by omega)
  have e3 := h.ents.cell hd (j := 3) (by omega)
  have g3 := h.ents.fz (d * 4 + 3)
  have hG : Hid (Graph w g B (Value.slice (some { block := l, off := 0 }) n cap) n f s) := h
  clear h
  have hne : g ≠ l := by omega
  have hpl' : p ≠ l := fun e => hpl (by simp [Value.ownBlock, e])
  clear hpl
  go_enter Try.func28, Try.ntmps28
  go_wp2
  go_region
  go_wp2
  go_ret
  refine ⟨rfl, ?_, ?_, rfl, rfl, rfl, by simp⟩
  · have h : Graph w g B (Value.slice (some { block := l, off := 0 }) n cap) n f s := hG
    have h1 : Graph (w.setCell ⟨p, 0, none⟩ (.int .i32 (f d 3))) g B (Value.slice (some { block := l, off := 0 }) n cap) n f s :=
      ⟨h.head.same (heap_setCell_other w _ g _ (fun e => hpg (by simpa using e.symm))), h.ents.same (fun k hk => heap_setCell_other w _ k _ (fun e => hpl' (by simp [Value.ownBlock] at hk; simp at e; omega))), h.lt, by simpa using h.le⟩
    exact ((h1.setE hd (m := 3) (by omega) s).setSpare d).drew
  · intro b h1 h2 h3
    have h4 : b ≠ l := fun e => h2 (by simp [Value.ownBlock, e])
    show (((w.setCell _ _).setCell _ _).setCell _ _).heap[b]? = _
    rw [heap_setCell_other _ _ _ _ h1, heap_setCell_other _ _ _ _ h4, heap_setCell_other _ _ _ _ h3]

/-- ZZunlink. -/
theorem zzunlink (w : World) (g B : Nat) (lv : Value) (n : Nat) (f : Nat → Nat → Int) (s : Int) (h : Graph w g B lv n f s) (d : Nat) (hd : d < n) (h31 : n ≤ 2147483647) :
    Calls Try.prog 12 #[.pointer (some ⟨g, 0, none⟩), .int .i32 d] w fun e w' => e = .returned (.int .i32 (f d 3)) ∧ Graph w' g B lv n (updN f d s) d ∧ Off w w' g lv.ownBlock := by
  have hG : Hid (Graph w g B lv n f s) := h
  clear h
  go_enter Try.func12, Try.ntmps12
  go_wp2_with fail
  have hl := (Graph.ents hG).lt
  have hgl := (Graph.head hG).lt
  refine (unlinkAt _ g B lv n f s (Graph.alloc hG _) d hd h31 w.heap.size (by omega) (fun e => by have := hl _ e.symm; omega) (cellC (heap_alloc_new w _) 0) (frzC (heap_alloc_new w _) 0)).mono ?_
  rintro e w1 ⟨rfl, hG', hfr, q1, q2, q3, q4⟩
  go_wp2
  go_ret
  refine ⟨rfl, hG', q1, q2, q3, by rw [q4]; simp, fun b hb h1 h2 => ?_⟩
  rw [hfr b h1 h2 (by omega)]
  exact heap_alloc_old _ _ hb
end Go.Proofs.Qxb6614451a
