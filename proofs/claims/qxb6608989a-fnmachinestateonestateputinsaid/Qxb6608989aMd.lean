/- States and events told by their cells. -/
import Derived.Test.Qxb6608989aKw3
namespace Go.Proofs.Qxb6608989a
open Go.RowKit

structure Rt where
  att : Int
  del : Int
  mx : Int
  give : ByteArray

structure Zs where
  name : ByteArray
  ended : Bool
  worked : Bool
  retry : Option Rt

def zeroZs : Zs := ⟨ByteArray.empty, false, false, none⟩

/-- The pointer q leads to this retry policy, or is nil. -/
def RetryAt (w : World) (q : Value) : Option Rt → Prop
  | none => q = .pointer none
  | some r => ∃ b o, q = .pointer (some ⟨b, o, none⟩) ∧ b < w.heap.size ∧ w.cell? ⟨b, o, none⟩ = some (.int .i64 r.att) ∧ w.cell? ⟨b, o + 1, none⟩ = some (.int .i64 r.del) ∧ w.cell? ⟨b, o + 2, none⟩ = some (.int .i64 r.mx) ∧ w.cell? ⟨b, o + 3, none⟩ = some (.string r.give)

theorem RetryAt.later {w w' : World} {q : Value} {r : Option Rt} (h : RetryAt w q r) (hb : Below w.heap.size w w') : RetryAt w' q r := by
  cases r with
  | none => exact h
  | some r =>
    obtain ⟨b, o, rfl, hl, c0, c1, c2, c3⟩ := h
    exact ⟨b, o, rfl, Nat.lt_of_lt_of_le hl hb.size, (hb.cell (p := ⟨b, o, none⟩) hl).trans c0, (hb.cell (p := ⟨b, o + 1, none⟩) hl).trans c1, (hb.cell (p := ⟨b, o + 2, none⟩) hl).trans c2, (hb.cell (p := ⟨b, o + 3, none⟩) hl).trans c3⟩

/-- A state as a value. -/
abbrev zv (z : Zs) (q : Value) : Value := .agg #[.string z.name, .bool z.ended, .bool z.worked, q]

/-- A slice of states, told by its cells. -/
def StatesAt (w : World) (a0 : Option Addr) (n : Nat) (T : Nat → Zs) : Prop :=
  0 < n → ∃ b off, a0 = some ⟨b, off, none⟩ ∧ b < w.heap.size ∧ ∀ i, i < n → ∃ q, w.cell? ⟨b, off + i * 4, none⟩ = some (.string (T i).name) ∧ w.cell? ⟨b, off + i * 4 + 1, none⟩ = some (.bool (T i).ended) ∧
    w.cell? ⟨b, off + i * 4 + 2, none⟩ = some (.bool (T i).worked) ∧ w.cell? ⟨b, off + i * 4 + 3, none⟩ = some q ∧ RetryAt w q (T i).retry

theorem StatesAt.later {w w' : World} {a0 : Option Addr} {n : Nat} {T : Nat → Zs} (h : StatesAt w a0 n T) (hb : Below w.heap.size w w') : StatesAt w' a0 n T := by
  intro h0
  obtain ⟨b, off, rfl, hl, hc⟩ := h h0
  refine ⟨b, off, rfl, Nat.lt_of_lt_of_le hl hb.size, fun i hi => ?_⟩
  obtain ⟨q, c0, c1, c2, c3, hr⟩ := hc i hi
  exact ⟨q, (hb.cell (p := ⟨b, off + i * 4, none⟩) hl).trans c0, (hb.cell (p := ⟨b, off + i * 4 + 1, none⟩) hl).trans c1, (hb.cell (p := ⟨b, off + i * 4 + 2, none⟩) hl).trans c2, (hb.cell (p := ⟨b, off + i * 4 + 3, none⟩) hl).trans c3, hr.later hb⟩

theorem StatesAt.take {w : World} {a : Option Addr} {n c : Nat} {T : Nat → Zs} (h : StatesAt w a n T) (hc : c ≤ n) : StatesAt w a c T := by
  intro h0
  obtain ⟨b, off, rfl, hg, hcc⟩ := h (by omega)
  exact ⟨b, off, rfl, hg, fun i hi => hcc i (by omega)⟩

theorem StatesAt.cut {w : World} {a : Option Addr} {n c cap k : Nat} {T : Nat → Zs} (h : StatesAt w a n T) (hn : n ≤ cap) (hk : c + k ≤ n) : StatesAt w (if cap = c then a else a.map (·.add (c * 4))) k (fun i => T (c + i)) := by
  intro h0
  obtain ⟨b, off, rfl, hg, hcc⟩ := h (by omega)
  rw [if_neg (by omega)]
  refine ⟨b, off + c * 4, by simp [Addr.add_lit], hg, fun i hi => ?_⟩
  have := hcc (c + i) (by omega)
  rwa [show off + (c + i) * 4 = off + c * 4 + i * 4 by omega] at this

/-- A slice of strings that came in. -/
def RowStrs (w : World) (a : Option Addr) (n : Nat) (F : Nat → ByteArray) : Prop :=
  0 < n → ∃ b off, a = some ⟨b, off, none⟩ ∧ b < w.heap.size ∧ ∀ i, i < n → w.cell? ⟨b, off + i, none⟩ = some (.string (F i))

theorem RowStrs.later {w w' : World} {a0 : Option Addr} {n : Nat} {F : Nat → ByteArray} (h : RowStrs w a0 n F) (hb : Below w.heap.size w w') : RowStrs w' a0 n F := by
  intro h0
  obtain ⟨b, off, rfl, hl, hc⟩ := h h0
  exact ⟨b, off, rfl, Nat.lt_of_lt_of_le hl hb.size, fun i hi => (hb.cell (p := ⟨b, off + i, none⟩) hl).trans (hc i hi)⟩

/-- A slice of events, told by its cells. -/
def EventsAt (w : World) (a0 : Option Addr) (n : Nat) (Lf : Nat → Nat) : Prop :=
  0 < n → ∃ b off, a0 = some ⟨b, off, none⟩ ∧ b < w.heap.size ∧ ∀ i, i < n → ∃ (s t : ByteArray) (a : Option Addr) (c : Nat) (F : Nat → ByteArray), w.cell? ⟨b, off + i * 3, none⟩ = some (.string s) ∧ w.cell? ⟨b, off + i * 3 + 1, none⟩ = some (.slice a (Lf i) c) ∧
    w.cell? ⟨b, off + i * 3 + 2, none⟩ = some (.string t) ∧ RowStrs w a (Lf i) F

theorem EventsAt.later {w w' : World} {a0 : Option Addr} {n : Nat} {Lf : Nat → Nat} (h : EventsAt w a0 n Lf) (hb : Below w.heap.size w w') : EventsAt w' a0 n Lf := by
  intro h0
  obtain ⟨b, off, rfl, hl, hc⟩ := h h0
  refine ⟨b, off, rfl, Nat.lt_of_lt_of_le hl hb.size, fun i hi => ?_⟩
  obtain ⟨s, t, a, c, F, c0, c1, c2, hr⟩ := hc i hi
  exact ⟨s, t, a, c, F, (hb.cell (p := ⟨b, off + i * 3, none⟩) hl).trans c0, (hb.cell (p := ⟨b, off + i * 3 + 1, none⟩) hl).trans c1, (hb.cell (p := ⟨b, off + i * 3 + 2, none⟩) hl).trans c2, hr.later hb⟩

/-! The plain side: the first state of a name. -/
def fstTo (T : Nat → Zs) (nm : ByteArray) : Nat → Option Nat
  | 0 => none
  | k + 1 => match fstTo T nm k with
    | some i => some i
    | none => if (T k).name.toList == nm.toList then some k else none

def pickTo (T : Nat → Zs) (nm : ByteArray) (n : Nat) : Zs := match fstTo T nm n with
  | some i => T i
  | none => zeroZs

theorem fstTo_lt {T : Nat → Zs} {nm : ByteArray} {n i : Nat} (h : fstTo T nm n = some i) : i < n := by
  induction n with
  | zero => simp [fstTo] at h
  | succ n ih =>
    rw [fstTo] at h
    cases hq : fstTo T nm n with
    | some j => rw [hq] at h; simp at h; subst h; have := ih hq; omega
    | none => rw [hq] at h; simp at h; omega

theorem fstTo_add (T : Nat → Zs) (nm : ByteArray) (c m : Nat) : fstTo T nm (c + m) = match fstTo T nm c with
    | some i => some i
    | none => (fstTo (fun i => T (c + i)) nm m).map (c + ·) := by
  induction m with
  | zero =>
    cases h : fstTo T nm c with
    | some i => simp
    | none => simp [fstTo]
  | succ m ih =>
    rw [← Nat.add_assoc, fstTo, ih]
    cases h : fstTo T nm c with
    | some i => rfl
    | none =>
      simp only [fstTo]
      cases h2 : fstTo (fun i => T (c + i)) nm m with
      | some i => rfl
      | none =>
        simp only [Option.map_none]
        split <;> rfl

end Go.Proofs.Qxb6608989a
