/- Opening an argument of type []LinkStep into cells. -/
import Derived.Test.Qxb6614451aW2
import Derived.ProofKit
import Derived.OpenShut
import Derived.ChangeOld
import Derived.Deep.Slices
import Derived.Below
namespace Go.Proofs.Qxb6614451a
open Go.ChangeShapes Go.WideShapes Go.ChangeAt Go.RowKit Go.Deep

theorem Try.own : ownKnob Try.prog.godebug = none := by kernel_rfl
theorem Try.laidOut : laidOutB Try.prog = true := by kernel_rfl
theorem Try.cells28 : Try.prog.cellsOf 28 = 5 := by kernel_rfl
theorem Try.cells21 : Try.prog.cellsOf 21 = 1 := by kernel_rfl

theorem block_of_cell {w : World} {b o : Nat} {v : Value} (h : w.cell? ⟨b, o, none⟩ = some v) : b < w.heap.size := by
  by_cases hb : b < w.heap.size
  · exact hb
  · simp [World.cell?, Array.getElem?_eq_none (Nat.le_of_not_lt hb)] at h

theorem len5 {α : Type} {l : List α} (h : l.length = 5) : ∃ a b c d e, l = [a, b, c, d, e] := by
  match l, h with
  | [a, b, c, d, e], _ => exact ⟨a, b, c, d, e, rfl⟩

/-- One step. -/
structure Stp where
  c0 : Int
  c1 : Int
  c2 : Int
  c3 : Int
  c4 : Int
def Stp.at (s : Stp) : Nat → Int
  | 0 => s.c0
  | 1 => s.c1
  | 2 => s.c2
  | 3 => s.c3
  | _ => s.c4

theorem open_step {H : Type} {enc : TypeId × Value → H} {W : World} {sp : Nat → Bool} {held : Bool} {fuel : Nat} {cs : List Value} {x : DataW H × List MemPlace} (h : DataW.trod enc Try.prog W 0 sp held fuel 28 cs = some x) :
    ∃ z : Stp, cs = [.int .i32 z.c0, .int .i32 z.c1, .int .i32 z.c2, .int .i32 z.c3, .int .i32 z.c4] ∧ (Lit.int .i32 z.c4).wf = true := by
  obtain ⟨xs, k, _, _, hlen, hxl, hf⟩ := DataW.trod_struct Try.underlying28 h
  rw [Try.cells28] at hlen
  obtain ⟨y0, y1, y2, y3, y4, rfl⟩ := len5 hxl
  obtain ⟨v0, v1, v2, v3, v4, rfl⟩ := len5 hlen
  have g0 := hf 0 _ rfl
  have g1 := hf 1 _ rfl
  have g2 := hf 2 _ rfl
  have g3 := hf 3 _ rfl
  have g4 := hf 4 _ rfl
  simp [Try.cells21] at g0 g1 g2 g3 g4
  obtain ⟨s0, e0, _, _⟩ := DataW.trod_int Try.underlying21 g0
  obtain ⟨s1, e1, _, _⟩ := DataW.trod_int Try.underlying21 g1
  obtain ⟨s2, e2, _, _⟩ := DataW.trod_int Try.underlying21 g2
  obtain ⟨s3, e3, _, _⟩ := DataW.trod_int Try.underlying21 g3
  obtain ⟨s4, e4, _, w4⟩ := DataW.trod_int Try.underlying21 g4
  simp at e0 e1 e2 e3 e4
  subst e0 e1 e2 e3 e4
  exact ⟨⟨s0, s1, s2, s3, s4⟩, rfl, w4⟩

theorem open_steps {H : Type} {enc : TypeId × Value → H} {W : World} {a0 : Option Addr} {n cap : Nat} {d : DataW H} {p : List MemPlace}
    (h : DataW.Trod enc Try.prog W 0 (fun _ => true) true 22 (.slice a0 n cap) d p) :
    ∃ S : Nat → Nat → Int, StepsAt W a0 n S ∧ n ≤ 9223372036854775807 := by
  obtain ⟨fuel, hf⟩ := h
  rcases open_slice Try.underlying22 hf with ⟨hcs, _⟩ | ⟨a, len, c, m, k, D, Pl, hcs, _, hl, hm, hmm, _, hx⟩
  · simp [Value.cells] at hcs
    obtain ⟨rfl, rfl, rfl⟩ := hcs
    exact ⟨fun _ _ => 0, fun h => absurd h (by omega), by omega⟩
  · simp [Value.cells] at hcs
    obtain ⟨rfl, rfl, rfl⟩ := hcs
    simp only [if_true] at hmm
    subst hmm
    have each : ∀ i, i < m → ∃ z : Stp, W.cell? (a.add (i * 5)) = some (.int .i32 z.c0) ∧ W.cell? (a.add (i * 5 + 1)) = some (.int .i32 z.c1) ∧ W.cell? (a.add (i * 5 + 2)) = some (.int .i32 z.c2) ∧ W.cell? (a.add (i * 5 + 3)) = some (.int .i32 z.c3) ∧ W.cell? (a.add (i * 5 + 4)) = some (.int .i32 z.c4) ∧ (Lit.int .i32 z.c4).wf = true := by
      intro i hi
      obtain ⟨cs', h1, h2⟩ := hx i hi
      rw [Try.cells28] at h1
      obtain ⟨_, hlen, hcell⟩ := World.cells?_some h1
      obtain ⟨z, rfl, hr⟩ := open_step h2
      have c0 := hcell 0 (by omega)
      have c1 := hcell 1 (by omega)
      have c2 := hcell 2 (by omega)
      have c3 := hcell 3 (by omega)
      have c4 := hcell 4 (by omega)
      rw [add_add] at c0 c1 c2 c3 c4
      exact ⟨z, c0, c1, c2, c3, c4, hr⟩
    have : Inhabited Stp := ⟨⟨0, 0, 0, 0, 0⟩⟩
    obtain ⟨T, hT⟩ := choose_lt (α := Stp) each
    refine ⟨fun i => (T i).at, fun hn => ?_, by unfold maxLen at hm; omega⟩
    obtain ⟨b, off, spot⟩ := a
    have hspot : spot = none := by
      obtain ⟨c0, _⟩ := hT 0 (by omega)
      simpa [Addr.add] using World.cell?_spot c0
    subst hspot
    refine ⟨b, off, rfl, ?_, fun i hi => ?_⟩
    · obtain ⟨c0, _⟩ := hT 0 (by omega)
      rw [Addr.add_lit] at c0
      exact block_of_cell c0
    · have := hT i (by omega)
      simp only [Addr.add_lit] at this
      obtain ⟨c0, c1, c2, c3, c4, hr⟩ := this
      have hb := bounds_i32 hr
      exact ⟨c0, c1, c2, c3, c4, hb.1, hb.2⟩
end Go.Proofs.Qxb6614451a
