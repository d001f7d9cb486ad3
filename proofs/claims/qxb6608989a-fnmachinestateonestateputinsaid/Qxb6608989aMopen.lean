/- Opening arguments of types []ZState, []ZEvent and ZState into cells. -/
import Derived.Test.Qxb6608989aOpen
import Derived.Test.Qxb6608989aMd
namespace Go.Proofs.Qxb6608989a
open Go.ChangeShapes Go.WideShapes Go.ChangeAt Go.RowKit Go.Deep

theorem Try.cells46 : Try.prog.cellsOf 46 = 4 := by kernel_rfl
theorem Try.cells55 : Try.prog.cellsOf 55 = 4 := by kernel_rfl
theorem Try.cells57 : Try.prog.cellsOf 57 = 3 := by kernel_rfl
theorem Try.cells4 : Try.prog.cellsOf 4 = 1 := by kernel_rfl
theorem Try.cells3 : Try.prog.cellsOf 3 = 1 := by kernel_rfl
theorem Try.cells2 : Try.prog.cellsOf 2 = 1 := by kernel_rfl
theorem Try.cells44 : Try.prog.cellsOf 44 = 1 := by kernel_rfl
theorem Try.cells25 : Try.prog.cellsOf 25 = 1 := by kernel_rfl

theorem len4 {α : Type} {l : List α} (h : l.length = 4) : ∃ a b c d, l = [a, b, c, d] := by
  match l, h with
  | [a, b, c, d], _ => exact ⟨a, b, c, d, rfl⟩

section
variable {H : Type} {enc : TypeId × Value → H} {W : World} {sp : Nat → Bool} {held : Bool} {fuel : Nat} {cs : List Value} {x : DataW H × List MemPlace}

theorem open_retry (h : DataW.trod enc Try.prog W 0 sp held fuel 44 cs = some x) : ∃ q r, cs = [q] ∧ RetryAt W q r := by
  rcases DataW.trod_pointer Try.underlying44 h with ⟨rfl, _⟩ | ⟨a, cs', y, n, _, rfl, _, hc, ht⟩
  · exact ⟨_, none, rfl, rfl⟩
  · rw [Try.cells55] at hc
    obtain ⟨_, hlen, hcell⟩ := World.cells?_some hc
    obtain ⟨xs, k, _, _, _, hxl, hf⟩ := DataW.trod_struct Try.underlying55 ht
    match xs, hxl, cs', hlen with
    | [y0, y1, y2, y3], _, [v0, v1, v2, v3], _ =>
      have g0 := hf 0 _ rfl
      have g1 := hf 1 _ rfl
      have g2 := hf 2 _ rfl
      have g3 := hf 3 _ rfl
      simp [Try.cells3, Try.cells2, Try.cells9] at g0 g1 g2 g3
      obtain ⟨s0, e0, _, _⟩ := DataW.trod_int Try.underlying3 g0
      obtain ⟨s1, e1, _, _⟩ := DataW.trod_int Try.underlying2 g1
      obtain ⟨s2, e2, _, _⟩ := DataW.trod_int Try.underlying2 g2
      obtain ⟨s3, e3, _, _⟩ := DataW.trod_string Try.underlying9 g3
      simp at e0 e1 e2 e3
      subst e0 e1 e2 e3
      have c0 := hcell 0 (by omega)
      have c1 := hcell 1 (by omega)
      have c2 := hcell 2 (by omega)
      have c3 := hcell 3 (by omega)
      obtain ⟨b, o, spot⟩ := a
      have hspot : spot = none := by simpa [Addr.add] using World.cell?_spot (show W.cell? _ = some _ from c0)
      subst hspot
      rw [Addr.add_lit] at c0 c1 c2 c3
      exact ⟨_, some ⟨s0, s1, s2, s3⟩, rfl, b, o, rfl, block_of_cell (show W.cell? ⟨b, o + 0, none⟩ = some _ from c0), c0, c1, c2, c3⟩

theorem open_zs (h : DataW.trod enc Try.prog W 0 sp held fuel 46 cs = some x) : ∃ (z : Zs) (q : Value), cs = [.string z.name, .bool z.ended, .bool z.worked, q] ∧ RetryAt W q z.retry := by
  obtain ⟨xs, k, _, _, hlen, hxl, hf⟩ := DataW.trod_struct Try.underlying46 h
  rw [Try.cells46] at hlen
  obtain ⟨y0, y1, y2, y3, rfl⟩ := len4 hxl
  obtain ⟨v0, v1, v2, v3, rfl⟩ := len4 hlen
  have g0 := hf 0 _ rfl
  have g1 := hf 1 _ rfl
  have g2 := hf 2 _ rfl
  have g3 := hf 3 _ rfl
  simp [Try.cells4, Try.cells44, Try.cells9] at g0 g1 g2 g3
  obtain ⟨s0, e0, _, _⟩ := DataW.trod_string Try.underlying9 g0
  obtain ⟨s1, e1, _⟩ := DataW.trod_bool Try.underlying4 g1
  obtain ⟨s2, e2, _⟩ := DataW.trod_bool Try.underlying4 g2
  obtain ⟨q, r, e3, hr⟩ := open_retry g3
  simp at e0 e1 e2 e3
  subst e0 e1 e2 e3
  exact ⟨⟨s0, s1, s2, r⟩, _, rfl, hr⟩
end

theorem open_states {H : Type} {enc : TypeId × Value → H} {W : World} {a0 : Option Addr} {n cap : Nat} {d : DataW H} {p : List MemPlace}
    (h : DataW.Trod enc Try.prog W 0 (fun _ => true) true 31 (.slice a0 n cap) d p) :
    ∃ T : Nat → Zs, StatesAt W a0 n T ∧ n ≤ cap ∧ cap ≤ 9223372036854775807 ∧ (a0 = none → n = 0) := by
  obtain ⟨fuel, hf⟩ := h
  rcases open_slice Try.underlying31 hf with ⟨hcs, _⟩ | ⟨a, len, c, m, k, D, Pl, hcs, _, hl, hm, hmm, _, hx⟩
  · simp [Value.cells] at hcs
    obtain ⟨rfl, rfl, rfl⟩ := hcs
    exact ⟨fun _ => zeroZs, fun h => absurd h (by omega), Nat.le_refl _, by omega, fun _ => rfl⟩
  · simp [Value.cells] at hcs
    obtain ⟨rfl, rfl, rfl⟩ := hcs
    simp only [if_true] at hmm
    subst hmm
    have each : ∀ i, i < m → ∃ z : Zs, ∃ q, W.cell? (a.add (i * 4)) = some (.string z.name) ∧ W.cell? (a.add (i * 4 + 1)) = some (.bool z.ended) ∧ W.cell? (a.add (i * 4 + 2)) = some (.bool z.worked) ∧ W.cell? (a.add (i * 4 + 3)) = some q ∧ RetryAt W q z.retry := by
      intro i hi
      obtain ⟨cs', h1, h2⟩ := hx i hi
      rw [Try.cells46] at h1
      obtain ⟨_, hlen, hcell⟩ := World.cells?_some h1
      obtain ⟨z, q, rfl, hr⟩ := open_zs h2
      have c0 := hcell 0 (by omega)
      have c1 := hcell 1 (by omega)
      have c2 := hcell 2 (by omega)
      have c3 := hcell 3 (by omega)
      rw [add_add] at c0 c1 c2 c3
      exact ⟨z, q, c0, c1, c2, c3, hr⟩
    have : Inhabited Zs := ⟨zeroZs⟩
    obtain ⟨T, hT⟩ := choose_lt (α := Zs) each
    refine ⟨T, fun hn => ?_, hl, by unfold maxLen at hm; exact hm, fun h => by cases h⟩
    obtain ⟨b, off, spot⟩ := a
    have hspot : spot = none := by
      obtain ⟨q, c0, _⟩ := hT 0 (by omega)
      simpa [Addr.add] using World.cell?_spot c0
    subst hspot
    refine ⟨b, off, rfl, ?_, fun i hi => ?_⟩
    · obtain ⟨q, c0, _⟩ := hT 0 (by omega)
      rw [Addr.add_lit] at c0
      exact block_of_cell c0
    · have := hT i (by omega)
      simp only [Addr.add_lit] at this
      exact this

theorem open_rowStrs {H : Type} {enc : TypeId × Value → H} {W : World} {sp : Nat → Bool} {held : Bool} {fuel : Nat} {cs : List Value} {x : DataW H × List MemPlace}
    (h : DataW.trod enc Try.prog W 0 sp held fuel 25 cs = some x) : ∃ a l c F, cs = [.slice a l c] ∧ RowStrs W a l F := by
  rcases open_slice Try.underlying25 h with ⟨rfl, _⟩ | ⟨a, len, c, m, k, D, Pl, rfl, _, hl, hm, hmm, _, hx⟩
  · exact ⟨none, 0, 0, fun _ => ByteArray.empty, rfl, fun h => absurd h (by omega)⟩
  · have hlm : len ≤ m := by rw [hmm]; split <;> omega
    have each : ∀ i, i < m → ∃ s : ByteArray, W.cell? (a.add i) = some (.string s) := by
      intro i hi
      obtain ⟨cs', h1, h2⟩ := hx i hi
      rw [Try.cells9] at h1
      obtain ⟨_, hlen, hcell⟩ := World.cells?_some h1
      obtain ⟨s, rfl, _, _⟩ := DataW.trod_string Try.underlying9 h2
      have c0 := hcell 0 (by omega)
      rw [add_add] at c0
      exact ⟨s, by simpa using c0⟩
    have : Inhabited ByteArray := ⟨ByteArray.empty⟩
    obtain ⟨F, hF⟩ := choose_lt (α := ByteArray) each
    refine ⟨some a, len, c, F, rfl, fun hn => ?_⟩
    obtain ⟨b, off, spot⟩ := a
    have hspot : spot = none := by simpa [Addr.add] using World.cell?_spot (hF 0 (by omega))
    subst hspot
    refine ⟨b, off, rfl, ?_, fun i hi => ?_⟩
    · have c0 := hF 0 (by omega)
      rw [Addr.add_lit] at c0
      exact block_of_cell c0
    · have := hF i (by omega)
      rwa [Addr.add_lit] at this

theorem open_events {H : Type} {enc : TypeId × Value → H} {W : World} {a0 : Option Addr} {n cap : Nat} {d : DataW H} {p : List MemPlace}
    (h : DataW.Trod enc Try.prog W 0 (fun _ => true) true 32 (.slice a0 n cap) d p) :
    ∃ Lf : Nat → Nat, EventsAt W a0 n Lf ∧ n ≤ 9223372036854775807 ∧ (a0 = none → n = 0) := by
  obtain ⟨fuel, hf⟩ := h
  rcases open_slice Try.underlying32 hf with ⟨hcs, _⟩ | ⟨a, len, c, m, k, D, Pl, hcs, _, hl, hm, hmm, _, hx⟩
  · simp [Value.cells] at hcs
    obtain ⟨rfl, rfl, rfl⟩ := hcs
    exact ⟨fun _ => 0, fun h => absurd h (by omega), by omega, fun _ => rfl⟩
  · simp [Value.cells] at hcs
    obtain ⟨rfl, rfl, rfl⟩ := hcs
    simp only [if_true] at hmm
    subst hmm
    have each : ∀ i, i < m → ∃ l : Nat, ∃ (s t : ByteArray) (aF : Option Addr) (c : Nat) (F : Nat → ByteArray), W.cell? (a.add (i * 3)) = some (.string s) ∧ W.cell? (a.add (i * 3 + 1)) = some (.slice aF l c) ∧ W.cell? (a.add (i * 3 + 2)) = some (.string t) ∧ RowStrs W aF l F := by
      intro i hi
      obtain ⟨cs', h1, h2⟩ := hx i hi
      rw [Try.cells57] at h1
      obtain ⟨_, hlen, hcell⟩ := World.cells?_some h1
      obtain ⟨xs, k', _, _, _, hxl, hf'⟩ := DataW.trod_struct Try.underlying57 h2
      match xs, hxl, cs', hlen with
      | [y0, y1, y2], _, [v0, v1, v2], _ =>
        have g0 := hf' 0 _ rfl
        have g1 := hf' 1 _ rfl
        have g2 := hf' 2 _ rfl
        simp [Try.cells25, Try.cells9] at g0 g1 g2
        obtain ⟨s0, e0, _, _⟩ := DataW.trod_string Try.underlying9 g0
        obtain ⟨aF, l, c', F, e1, hr⟩ := open_rowStrs g1
        obtain ⟨s2, e2, _, _⟩ := DataW.trod_string Try.underlying9 g2
        simp at e0 e1 e2
        subst e0 e1 e2
        have c0 := hcell 0 (by omega)
        have c1 := hcell 1 (by omega)
        have c2 := hcell 2 (by omega)
        rw [add_add] at c0 c1 c2
        exact ⟨l, s0, s2, aF, c', F, c0, c1, c2, hr⟩
    obtain ⟨Lf, hT⟩ := choose_lt (α := Nat) each
    refine ⟨Lf, fun hn => ?_, by unfold maxLen at hm; omega, fun h => by cases h⟩
    obtain ⟨b, off, spot⟩ := a
    have hspot : spot = none := by
      obtain ⟨s, t, aF, c', F, c0, _⟩ := hT 0 (by omega)
      simpa [Addr.add] using World.cell?_spot c0
    subst hspot
    refine ⟨b, off, rfl, ?_, fun i hi => ?_⟩
    · obtain ⟨s, t, aF, c', F, c0, _⟩ := hT 0 (by omega)
      rw [Addr.add_lit] at c0
      exact block_of_cell c0
    · have := hT i (by omega)
      simp only [Addr.add_lit] at this
      exact this
end Go.Proofs.Qxb6608989a
