/- Opening an argument of type [][2]string into cells. -/
import Derived.Test.Qxb6608989aRows
import Derived.Test.Qxb6608989aKw1
import Derived.ProofKit
import Derived.OpenShut
import Derived.ChangeOld
import Derived.Deep.Slices
namespace Go.Proofs.Qxb6608989a
open Go.ChangeShapes Go.WideShapes Go.ChangeAt Go.RowKit Go.Deep

theorem Try.own : ownKnob Try.prog.godebug = none := by kernel_rfl
theorem Try.laidOut : laidOutB Try.prog = true := by kernel_rfl
theorem Try.cells28 : Try.prog.cellsOf 28 = 2 := by kernel_rfl
theorem Try.cells9 : Try.prog.cellsOf 9 = 1 := by kernel_rfl

theorem block_of_cell {w : World} {b o : Nat} {v : Value} (h : w.cell? ⟨b, o, none⟩ = some v) : b < w.heap.size := by
  by_cases hb : b < w.heap.size
  · exact hb
  · simp [World.cell?, Array.getElem?_eq_none (Nat.le_of_not_lt hb)] at h

theorem open_pairs {H : Type} {enc : TypeId × Value → H} {W : World} {a0 : Option Addr} {n cap : Nat} {d : DataW H} {p : List MemPlace}
    (h : DataW.Trod enc Try.prog W 0 (fun _ => true) true 22 (.slice a0 n cap) d p) :
    ∃ S : Nat → Nat → ByteArray, PairsAt W a0 n S ∧ n ≤ cap ∧ cap ≤ 9223372036854775807 ∧ (a0 = none → n = 0 ∧ cap = 0) := by
  obtain ⟨fuel, hf⟩ := h
  rcases open_slice Try.underlying22 hf with ⟨hcs, _⟩ | ⟨a, len, c, m, k, D, Pl, hcs, _, hl, hm, hmm, _, hx⟩
  · simp [Value.cells] at hcs
    obtain ⟨rfl, rfl, rfl⟩ := hcs
    exact ⟨fun _ _ => ByteArray.empty, fun h => absurd h (by omega), Nat.le_refl _, by omega, fun _ => ⟨rfl, rfl⟩⟩
  · simp [Value.cells] at hcs
    obtain ⟨rfl, rfl, rfl⟩ := hcs
    simp only [if_true] at hmm
    subst hmm
    have each : ∀ i, i < m → ∃ q : ByteArray × ByteArray, W.cell? (a.add (i * 2)) = some (.string q.1) ∧ W.cell? (a.add (i * 2 + 1)) = some (.string q.2) := by
      intro i hi
      obtain ⟨cs', h1, h2⟩ := hx i hi
      rw [Try.cells28] at h1
      obtain ⟨_, hlen, hcell⟩ := World.cells?_some h1
      obtain ⟨xs, k', _, _, _, hxl, hf'⟩ := DataW.trod_array Try.underlying28 h2
      match xs, hxl, cs', hlen with
      | [y0, y1], _, [v0, v1], _ =>
        have g0 := hf' 0 (by omega)
        have g1 := hf' 1 (by omega)
        simp [Try.cells9] at g0 g1
        obtain ⟨s0, e0, _, _⟩ := DataW.trod_string Try.underlying9 g0
        obtain ⟨s1, e1, _, _⟩ := DataW.trod_string Try.underlying9 g1
        simp at e0 e1
        subst e0 e1
        have c0 := hcell 0 (by omega)
        have c1 := hcell 1 (by omega)
        rw [add_add] at c0 c1
        exact ⟨(s0, s1), by simpa using c0, by simpa using c1⟩
    obtain ⟨q, hq⟩ := choose_lt (α := ByteArray × ByteArray) each
    refine ⟨fun i j => if j = 0 then (q i).1 else (q i).2, fun hn => ?_, hl, by unfold maxLen at hm; exact hm, fun h => by cases h⟩
    obtain ⟨b, off, spot⟩ := a
    have hspot : spot = none := by simpa [Addr.add] using World.cell?_spot (hq 0 (by omega)).1
    subst hspot
    refine ⟨b, off, rfl, ?_, fun i hi => ?_⟩
    · have := (hq 0 (by omega)).1
      rw [Addr.add_lit] at this
      exact block_of_cell this
    · have := hq i (by omega)
      rw [Addr.add_lit, Addr.add_lit] at this
      exact this
end Go.Proofs.Qxb6608989a
