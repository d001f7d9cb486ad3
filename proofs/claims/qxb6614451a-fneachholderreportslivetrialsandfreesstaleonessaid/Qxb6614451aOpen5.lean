/- Opening the arguments of the third law into cells. -/
import Derived.Test.Qxb6614451aOpen
import Derived.Test.Qxb6614451aW14
namespace Go.Proofs.Qxb6614451a
open Go.ChangeShapes Go.WideShapes Go.ChangeAt Go.RowKit Go.Deep

theorem Try.cells38 : Try.prog.cellsOf 38 = 4 := by kernel_rfl

theorem len4 {α : Type} {l : List α} (h : l.length = 4) : ∃ a b c d, l = [a, b, c, d] := by
  match l, h with
  | [a, b, c, d], _ => exact ⟨a, b, c, d, rfl⟩

theorem open_link {H : Type} {enc : TypeId × Value → H} {W : World} {sp : Nat → Bool} {held : Bool} {fuel : Nat} {cs : List Value} {x : DataW H × List MemPlace} (h : DataW.trod enc Try.prog W 0 sp held fuel 38 cs = some x) :
    ∃ z : Stp, cs = [.int .i32 z.c0, .int .i32 z.c1, .int .i32 z.c2, .int .i32 z.c3] ∧ (Lit.int .i32 z.c0).wf = true ∧ (Lit.int .i32 z.c3).wf = true := by
  obtain ⟨xs, k, _, _, hlen, hxl, hf⟩ := DataW.trod_struct Try.underlying38 h
  rw [Try.cells38] at hlen
  obtain ⟨y0, y1, y2, y3, rfl⟩ := len4 hxl
  obtain ⟨v0, v1, v2, v3, rfl⟩ := len4 hlen
  have g0 := hf 0 _ rfl
  have g1 := hf 1 _ rfl
  have g2 := hf 2 _ rfl
  have g3 := hf 3 _ rfl
  simp [Try.cells21] at g0 g1 g2 g3
  obtain ⟨s0, e0, _, w0⟩ := DataW.trod_int Try.underlying21 g0
  obtain ⟨s1, e1, _, _⟩ := DataW.trod_int Try.underlying21 g1
  obtain ⟨s2, e2, _, _⟩ := DataW.trod_int Try.underlying21 g2
  obtain ⟨s3, e3, _, w3⟩ := DataW.trod_int Try.underlying21 g3
  simp at e0 e1 e2 e3
  subst e0 e1 e2 e3
  exact ⟨⟨s0, s1, s2, s3, 0⟩, rfl, w0, w3⟩

theorem open_links {H : Type} {enc : TypeId × Value → H} {W : World} {a0 : Option Addr} {n cap : Nat} {d : DataW H} {p : List MemPlace}
    (h : DataW.Trod enc Try.prog W 0 (fun _ => true) true 35 (.slice a0 n cap) d p) :
    ∃ f : Nat → Nat → Int, LinksAt W a0 n f ∧ n ≤ 9223372036854775807 := by
  obtain ⟨fuel, hf⟩ := h
  rcases open_slice Try.underlying35 hf with ⟨hcs, _⟩ | ⟨a, len, c, m, k, D, Pl, hcs, _, hl, hm, hmm, _, hx⟩
  · simp [Value.cells] at hcs
    obtain ⟨rfl, rfl, rfl⟩ := hcs
    exact ⟨fun _ _ => 0, fun h => absurd h (by omega), by omega⟩
  · simp [Value.cells] at hcs
    obtain ⟨rfl, rfl, rfl⟩ := hcs
    simp only [if_true] at hmm
    subst hmm
    have each : ∀ i, i < m → ∃ z : Stp, W.cell? (a.add (i * 4)) = some (.int .i32 z.c0) ∧ W.cell? (a.add (i * 4 + 1)) = some (.int .i32 z.c1) ∧ W.cell? (a.add (i * 4 + 2)) = some (.int .i32 z.c2) ∧ W.cell? (a.add (i * 4 + 3)) = some (.int .i32 z.c3) ∧ (Lit.int .i32 z.c0).wf = true ∧ (Lit.int .i32 z.c3).wf = true := by
      intro i hi
      obtain ⟨cs', h1, h2⟩ := hx i hi
      rw [Try.cells38] at h1
      obtain ⟨_, hlen, hcell⟩ := World.cells?_some h1
      obtain ⟨z, rfl, hr⟩ := open_link h2
      have c0 := hcell 0 (by omega)
      have c1 := hcell 1 (by omega)
      have c2 := hcell 2 (by omega)
      have c3 := hcell 3 (by omega)
      rw [add_add] at c0 c1 c2 c3
      exact ⟨z, c0, c1, c2, c3, hr⟩
    have : Inhabited Stp := ⟨⟨0, 0, 0, 0, 0⟩⟩
    obtain ⟨T, hT⟩ := choose_lt (α := Stp) each
    refine ⟨fun i => (T i).at, fun hn => ?_, by unfold maxLen at hm; omega⟩
    obtain ⟨b, off, spot⟩ := a
    have hspot : spot = none := by
      obtain ⟨c0, _⟩ := hT 0 (by omega)
      simpa [Addr.add] using World.cell?_spot c0
    subst hspot
    refine ⟨b, off, rfl, ?_, fun i hi => ?_⟩
    · obtain ⟨c0, _⟩ := hT 0 (by omega)
      rw [Addr.add_lit] at c0
      exact block_of_cell c0
    · have := hT i (by omega)
      simp only [Addr.add_lit] at this
      obtain ⟨c0, c1, c2, c3, h0, h3⟩ := this
      exact ⟨c0, c1, c2, c3, bounds_i32 h0, bounds_i32 h3⟩

theorem open_tries {H : Type} {enc : TypeId × Value → H} {W : World} {a0 : Option Addr} {n cap : Nat} {d : DataW H} {p : List MemPlace}
    (h : DataW.Trod enc Try.prog W 0 (fun _ => true) true 26 (.slice a0 n cap) d p) :
    ∃ T : Nat → Int, TriesAt W a0 n T ∧ n ≤ 9223372036854775807 := by
  obtain ⟨fuel, hf⟩ := h
  rcases open_ints Try.underlying26 Try.underlying21 Try.cells21 hf with ⟨hcs, _⟩ | ⟨a, len, c, zs, hcs, _, hl, hm, hz, _, hx, _⟩
  · simp [Value.cells] at hcs
    obtain ⟨rfl, rfl, rfl⟩ := hcs
    exact ⟨fun _ => 0, fun h => absurd h (by omega), by omega⟩
  · simp [Value.cells] at hcs
    obtain ⟨rfl, rfl, rfl⟩ := hcs
    simp only [if_true] at hz
    refine ⟨fun i => zs.getD i 0, fun hn => ?_, by unfold maxLen at hm; omega⟩
    obtain ⟨b, off, spot⟩ := a
    have hspot : spot = none := by
      have c0 := hx 0 (by omega)
      simpa [Addr.add] using World.cell?_spot c0
    subst hspot
    refine ⟨b, off, rfl, ?_, fun i hi => ?_⟩
    · have c0 := hx 0 (by omega)
      rw [Addr.add_lit] at c0
      exact block_of_cell c0
    · have := hx i (by omega)
      rw [Addr.add_lit] at this
      exact this
end Go.Proofs.Qxb6614451a
