/- The walk of toState. -/
import Derived.Test.Qxb6608989aMw1
import Derived.Deep.DeepCutAuto
namespace Go.Proofs.Qxb6608989a
open Go.RowKit

/-- What toState holds when it comes to its test on Retry. -/
structure StMid (w wc : World) (nm : ByteArray) (tm wk : Bool) (q : Value) : Prop where
  bel : Below w.heap.size w wc
  size : wc.heap.size = w.heap.size + 3
  a3 : wc.cell? ⟨w.heap.size, 3, none⟩ = some q
  r0 : wc.cell? ⟨w.heap.size + 1, 0, none⟩ = some (.string ByteArray.empty)
  r1 : wc.cell? ⟨w.heap.size + 1, 1, none⟩ = some (.bool false)
  r2 : wc.cell? ⟨w.heap.size + 1, 2, none⟩ = some (.bool false)
  r3 : wc.cell? ⟨w.heap.size + 1, 3, none⟩ = some (.pointer none)
  s0 : wc.cell? ⟨w.heap.size + 1 + 1, 0, none⟩ = some (.string nm)
  s1 : wc.cell? ⟨w.heap.size + 1 + 1, 1, none⟩ = some (.bool tm)
  s2 : wc.cell? ⟨w.heap.size + 1 + 1, 2, none⟩ = some (.bool wk)
  s3 : wc.cell? ⟨w.heap.size + 1 + 1, 3, none⟩ = some (.pointer none)
  fr : ∀ o, wc.frozen? ⟨w.heap.size + 1, o, none⟩ = false
  fs : ∀ o, wc.frozen? ⟨w.heap.size + 1 + 1, o, none⟩ = false

theorem stMid (w : World) (nm : ByteArray) (tm wk : Bool) (q : Value) : StMid w (((w.alloc (.cells #[.string nm, .bool tm, .bool wk, q] 46)).alloc (.cells #[.string ByteArray.empty, .bool false, .bool false, .pointer none] 37)).alloc (.cells #[.string nm, .bool tm, .bool wk, .pointer none] 37)) nm tm wk q where
  bel := (((Below.refl _ _).alloc (Nat.le_refl _) _).alloc (by simp) _).alloc (by simp; omega) _
  size := by simp
  a3 := by simp [go_sem]
  r0 := by simp [go_sem]
  r1 := by simp [go_sem]
  r2 := by simp [go_sem]
  r3 := by simp [go_sem]
  s0 := by simp [go_sem]
  s1 := by simp [go_sem]
  s2 := by simp [go_sem]
  s3 := by simp [go_sem]
  fr := by intro o; simp [go_sem]
  fs := by intro o; simp [go_sem]

/-- What toState holds behind its test on Retry. -/
structure StEnd (w wc : World) (nm : ByteArray) (tm wk : Bool) (q : Value) (r : Option Rt) : Prop where
  bel : Below w.heap.size w wc
  ret : RetryAt wc q r
  ptr : ∃ p, q = .pointer p ∧ ∀ b o, p = some ⟨b, o, none⟩ → w.heap.size + 3 ≤ b
  r0 : ∃ x, wc.cell? ⟨w.heap.size + 1, 0, none⟩ = some x
  r1 : ∃ x, wc.cell? ⟨w.heap.size + 1, 1, none⟩ = some x
  r2 : ∃ x, wc.cell? ⟨w.heap.size + 1, 2, none⟩ = some x
  r3 : ∃ x, wc.cell? ⟨w.heap.size + 1, 3, none⟩ = some x
  s0 : wc.cell? ⟨w.heap.size + 1 + 1, 0, none⟩ = some (.string nm)
  s1 : wc.cell? ⟨w.heap.size + 1 + 1, 1, none⟩ = some (.bool tm)
  s2 : wc.cell? ⟨w.heap.size + 1 + 1, 2, none⟩ = some (.bool wk)
  s3 : wc.cell? ⟨w.heap.size + 1 + 1, 3, none⟩ = some q
  fr : ∀ o, wc.frozen? ⟨w.heap.size + 1, o, none⟩ = false

theorem StMid.fin {w wc : World} {nm : ByteArray} {tm wk : Bool} {q : Value} (h : StMid w wc nm tm wk q) : StEnd w wc nm tm wk (.pointer none) none :=
  ⟨h.bel, rfl, ⟨_, rfl, fun b o h => by cases h⟩, ⟨_, h.r0⟩, ⟨_, h.r1⟩, ⟨_, h.r2⟩, ⟨_, h.r3⟩, h.s0, h.s1, h.s2, h.s3, h.fr⟩

/-- The new policy laid, its address stored into the state. -/
theorem StMid.made {w wc : World} {nm : ByteArray} {tm wk : Bool} {q : Value} (h : StMid w wc nm tm wk q) (r : Rt) (m : Nat) :
    StEnd w (((wc.alloc (.cells #[.int .i64 r.att, .int .i64 r.del, .int .i64 r.mx, .string r.give] 67)).setCell ⟨w.heap.size + 1 + 1, 3, none⟩ (.pointer (some ⟨wc.heap.size, 0, none⟩))).drewN m) nm tm wk (.pointer (some ⟨wc.heap.size, 0, none⟩)) (some r) := by
  have hs := h.size
  have ol : ∀ b o, b < wc.heap.size → b ≠ w.heap.size + 1 + 1 → (((wc.alloc (.cells #[.int .i64 r.att, .int .i64 r.del, .int .i64 r.mx, .string r.give] 67)).setCell ⟨w.heap.size + 1 + 1, 3, none⟩ (.pointer (some ⟨wc.heap.size, 0, none⟩))).drewN m).cell? ⟨b, o, none⟩ = wc.cell? ⟨b, o, none⟩ := by
    intro b o hb hne
    rw [World.cell?_drewN, World.cell?_setCell_other _ _ _ _ (fun e => hne (by injection e with e1; exact e1.symm)), World.cell?_alloc_lt _ _ _ hb]
  have os : ∀ o, o ≠ 3 → (((wc.alloc (.cells #[.int .i64 r.att, .int .i64 r.del, .int .i64 r.mx, .string r.give] 67)).setCell ⟨w.heap.size + 1 + 1, 3, none⟩ (.pointer (some ⟨wc.heap.size, 0, none⟩))).drewN m).cell? ⟨w.heap.size + 1 + 1, o, none⟩ = wc.cell? ⟨w.heap.size + 1 + 1, o, none⟩ := by
    intro o hne
    rw [World.cell?_drewN, World.cell?_setCell_other _ _ _ _ (fun e => hne (by injection e with _ e1; exact e1.symm)), World.cell?_alloc_lt _ _ _ (by show w.heap.size + 1 + 1 < wc.heap.size; omega)]
  have nw : ∀ o, (((wc.alloc (.cells #[.int .i64 r.att, .int .i64 r.del, .int .i64 r.mx, .string r.give] 67)).setCell ⟨w.heap.size + 1 + 1, 3, none⟩ (.pointer (some ⟨wc.heap.size, 0, none⟩))).drewN m).cell? ⟨wc.heap.size, o, none⟩ = (#[.int .i64 r.att, .int .i64 r.del, .int .i64 r.mx, .string r.give] : Array Value)[o]? := by
    intro o
    rw [World.cell?_drewN, World.cell?_setCell_other _ _ _ _ (fun e => by injection e with e1; omega), World.cell?_alloc_new]
  refine ⟨?_, ⟨wc.heap.size, 0, rfl, by simp [World.setCell], ?_, ?_, ?_, ?_⟩, ⟨_, rfl, fun b o e => by simp at e; omega⟩, ⟨_, (ol _ _ (by omega) (by omega)).trans h.r0⟩, ⟨_, (ol _ _ (by omega) (by omega)).trans h.r1⟩, ⟨_, (ol _ _ (by omega) (by omega)).trans h.r2⟩, ⟨_, (ol _ _ (by omega) (by omega)).trans h.r3⟩,
    (os _ (by omega)).trans h.s0, (os _ (by omega)).trans h.s1, (os _ (by omega)).trans h.s2, ?_, ?_⟩
  · exact ((h.bel.alloc (by omega) _).setCell (p := ⟨w.heap.size + 1 + 1, 3, none⟩) (by simp; omega) _).trans (below_drewN m)
  · exact nw 0
  · exact nw 1
  · exact nw 2
  · exact nw 3
  · rw [World.cell?_drewN]
    exact World.cell?_setCell_same _ _ _ (by rw [World.cell?_alloc_lt _ _ _ (by show w.heap.size + 1 + 1 < wc.heap.size; omega)]; exact h.s3)
  · intro o
    rw [World.frozen?_drewN, World.frozen?_setCell, World.frozen?_alloc_old _ _ _ (by show w.heap.size + 1 ≠ wc.heap.size; omega)]
    exact h.fr o

theorem RetryAt.setCell {w : World} {a : Option Addr} {r : Option Rt} (h : RetryAt w (.pointer a) r) {p : Addr} (hp : ∀ b o, a = some ⟨b, o, none⟩ → b ≠ p.block) (v : Value) : RetryAt (w.setCell p v) (.pointer a) r := by
  cases r with
  | none => exact h
  | some r =>
    obtain ⟨b, o, hq, hl, c0, c1, c2, c3⟩ := h
    obtain rfl : a = some ⟨b, o, none⟩ := by simpa using hq
    have hne := hp b o rfl
    have e : ∀ k, (w.setCell p v).cell? ⟨b, k, none⟩ = w.cell? ⟨b, k, none⟩ := fun k => World.cell?_setCell_other _ _ _ _ (fun e => hne (by rw [e]))
    exact ⟨b, o, rfl, by simpa [World.setCell] using hl, (e _).trans c0, (e _).trans c1, (e _).trans c2, (e _).trans c3⟩

/-- Four cells of one block written one behind the other. -/
theorem four_set (w : World) (b : Nat) (v0 v1 v2 v3 x0 x1 x2 x3 : Value) (h0 : w.cell? ⟨b, 0, none⟩ = some x0) (h1 : w.cell? ⟨b, 1, none⟩ = some x1) (h2 : w.cell? ⟨b, 2, none⟩ = some x2) (h3 : w.cell? ⟨b, 3, none⟩ = some x3) :
    let w' := (((w.setCell ⟨b, 0, none⟩ v0).setCell ⟨b, 1, none⟩ v1).setCell ⟨b, 2, none⟩ v2).setCell ⟨b, 3, none⟩ v3
    w'.cell? ⟨b, 0, none⟩ = some v0 ∧ w'.cell? ⟨b, 1, none⟩ = some v1 ∧ w'.cell? ⟨b, 2, none⟩ = some v2 ∧ w'.cell? ⟨b, 3, none⟩ = some v3 := by
  have ne : ∀ i j : Nat, i ≠ j → (⟨b, i, none⟩ : Addr) ≠ ⟨b, j, none⟩ := fun i j h e => h (by injection e)
  refine ⟨?_, ?_, ?_, ?_⟩
  · rw [World.cell?_setCell_other _ _ _ _ (ne 3 0 (by omega)), World.cell?_setCell_other _ _ _ _ (ne 2 0 (by omega)), World.cell?_setCell_other _ _ _ _ (ne 1 0 (by omega))]
    exact World.cell?_setCell_same _ _ _ h0
  · rw [World.cell?_setCell_other _ _ _ _ (ne 3 1 (by omega)), World.cell?_setCell_other _ _ _ _ (ne 2 1 (by omega))]
    exact World.cell?_setCell_same _ _ _ (by rw [World.cell?_setCell_other _ _ _ _ (ne 0 1 (by omega))]; exact h1)
  · rw [World.cell?_setCell_other _ _ _ _ (ne 3 2 (by omega))]
    exact World.cell?_setCell_same _ _ _ (by rw [World.cell?_setCell_other _ _ _ _ (ne 1 2 (by omega)), World.cell?_setCell_other _ _ _ _ (ne 0 2 (by omega))]; exact h2)
  · exact World.cell?_setCell_same _ _ _ (by rw [World.cell?_setCell_other _ _ _ _ (ne 2 3 (by omega)), World.cell?_setCell_other _ _ _ _ (ne 1 3 (by omega)), World.cell?_setCell_other _ _ _ _ (ne 0 3 (by omega))]; exact h3)

/-- A state that is a result is read off its block. -/
theorem results37 {f : Func} {t : Nat} {tmps : Array Value} {w : World} {b : Nat} {v0 v1 v2 v3 : Value} (hf : f.results = #[.cell t 37]) (ht : tmps.getD t undef = .pointer (some ⟨b, 0, none⟩))
    (h0 : w.cell? ⟨b, 0, none⟩ = some v0) (h1 : w.cell? ⟨b, 1, none⟩ = some v1) (h2 : w.cell? ⟨b, 2, none⟩ = some v2) (h3 : w.cell? ⟨b, 3, none⟩ = some v3) :
    (results f tmps).run Try.prog w = .ok (.agg #[v0, v1, v2, v3]) w := by
  have e : (results f tmps).run Try.prog w = ((asAddr (tmps.getD t undef)).run Try.prog w).andThen fun a w₁ => (loadVar 37 a).run Try.prog w₁ := by
    simp only [results, hf]
    simp [Sem.run_bind, Result.andThen]
  rw [e, ht]
  simp [go_sem, h0, h1, h2, h3]

set_option maxHeartbeats 400000 in
theorem toState_any (z : Zs) (q : Value) (w : World) (hr : RetryAt w q z.retry) :
    Calls Try.prog 29 #[zv z q] w fun e w' => ∃ p, e = .returned (zv z (.pointer p)) ∧ RetryAt w' (.pointer p) z.retry ∧ (∀ b o, p = some ⟨b, o, none⟩ → w.heap.size + 3 ≤ b) ∧ Below w.heap.size w w' := by
  obtain ⟨nm, tm, wk, r⟩ := z
  go_enter Try.func29, Try.ntmps29
  go_upto_region 1 with fail
  go_cut [3] (fun v wc => v = .pointer (some ⟨w.heap.size + 1 + 1, 0, none⟩) ∧ StMid w wc nm tm wk q)
  case first =>
    cases r with
    | none =>
      obtain rfl : q = .pointer none := hr
      go_wp2
      go_meet
      case rel => exact ⟨rfl, stMid _ _ _ _ _⟩
    | some r =>
      obtain ⟨b, o, rfl, hl, c0, c1, c2, c3⟩ := hr
      go_wp2
      go_meet
      case rel => exact ⟨rfl, stMid _ _ _ _ _⟩
  case rest =>
    obtain ⟨rfl, hmid⟩ := hcut
    obtain ⟨wm, rfl⟩ : ∃ wm : World, wm = wc := ⟨_, rfl⟩
    obtain ⟨p, rfl⟩ : ∃ p, q = .pointer p := by
      cases r with
      | none => exact ⟨_, hr⟩
      | some r => obtain ⟨b, o, rfl, _⟩ := hr; exact ⟨_, rfl⟩
    have a3 := hmid.a3
    go_upto_if 13 with fail
    clear a3
    go_cut [] (fun wx => ∃ q', StEnd w wx nm tm wk q' r)
    case first =>
      cases r with
      | none =>
        obtain rfl : p = none := by simpa [RetryAt] using hr
        go_wp2
        go_meet
        case rel => exact ⟨_, hmid.fin⟩
      | some r =>
        obtain ⟨b, o, hp, hl, c0, c1, c2, c3⟩ := hr
        obtain rfl : p = some ⟨b, o, none⟩ := by simpa using hp
        have bel := hmid.bel
        have size := hmid.size
        have d0 := (bel.cell (p := ⟨b, o, none⟩) hl).trans c0
        have d1 := (bel.cell (p := ⟨b, o + 1, none⟩) hl).trans c1
        have d2 := (bel.cell (p := ⟨b, o + 2, none⟩) hl).trans c2
        have d3 := (bel.cell (p := ⟨b, o + 3, none⟩) hl).trans c3
        have a3 := hmid.a3
        have s3' : ∀ O, (wm.alloc O).cell? ⟨w.heap.size + 1 + 1, 3, none⟩ = some (.pointer none) := fun O => by rw [World.cell?_alloc_lt _ _ _ (by show w.heap.size + 1 + 1 < wm.heap.size; omega)]; exact hmid.s3
        have fs' : ∀ O o, (wm.alloc O).frozen? ⟨w.heap.size + 1 + 1, o, none⟩ = false := fun O o => by rw [World.frozen?_alloc_old _ _ _ (by show w.heap.size + 1 + 1 ≠ wm.heap.size; omega)]; exact hmid.fs o
        have m1 : ¬ w.heap.size + 1 + 1 = b := by omega
        have m2 : ¬ w.heap.size + 1 + 1 = w.heap.size := by omega
        clear c0 c1 c2 c3 bel size hp
        go_wp2
        go_region_held3 (fun w' => w'.cell? ⟨w.heap.size, 3, none⟩ = some (.pointer (some ⟨b, o, none⟩)) ∧ w'.cell? ⟨b, o, none⟩ = some (.int .i64 r.att) ∧ w'.cell? ⟨b, o + 1, none⟩ = some (.int .i64 r.del) ∧ w'.cell? ⟨b, o + 2, none⟩ = some (.int .i64 r.mx) ∧ w'.cell? ⟨b, o + 3, none⟩ = some (.string r.give)) (go_keep) ((go_at_call 30; refine (newRetry_any r _).mono ?_; rintro e w' ⟨rfl, rfl⟩))
        go_wp2
        go_meet
        case rel => exact ⟨_, hmid.made r 1⟩
    case rest =>
      clear hmid hr
      obtain ⟨q', bel, ret, ⟨p', rfl, hpn⟩, ⟨x0, r0⟩, ⟨x1, r1⟩, ⟨x2, r2⟩, ⟨x3, r3⟩, s0, s1, s2, s3, fr⟩ := hcut
      go_wp2
      have hpn' : ∀ b o, p' = some ⟨b, o, none⟩ → b ≠ w.heap.size + 1 := fun b o h => by have := hpn b o h; omega
      have hf := four_set wc (w.heap.size + 1) (.string nm) (.bool tm) (.bool wk) (.pointer p') _ _ _ _ r0 r1 r2 r3
      have bel2 := ((((bel.setCell (p := ⟨w.heap.size + 1, 0, none⟩) (by simp) (.string nm)).setCell (p := ⟨w.heap.size + 1, 1, none⟩) (by simp) (.bool tm)).setCell (p := ⟨w.heap.size + 1, 2, none⟩) (by simp) (.bool wk)).setCell (p := ⟨w.heap.size + 1, 3, none⟩) (by simp) (.pointer p'))
      exact bodyPost_ret (v := zv ⟨nm, tm, wk, r⟩ (.pointer p')) (results37 Try.results29 rfl hf.1 hf.2.1 hf.2.2.1 hf.2.2.2) rfl ⟨_, rfl, (((ret.setCell (p := ⟨w.heap.size + 1, 0, none⟩) hpn' _).setCell (p := ⟨w.heap.size + 1, 1, none⟩) hpn' _).setCell (p := ⟨w.heap.size + 1, 2, none⟩) hpn' _).setCell (p := ⟨w.heap.size + 1, 3, none⟩) hpn' _, hpn, bel2⟩
end Go.Proofs.Qxb6608989a
