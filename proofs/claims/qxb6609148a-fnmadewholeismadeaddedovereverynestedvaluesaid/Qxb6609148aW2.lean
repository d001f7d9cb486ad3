/- Numbers: bits, bytes, big.Int. -/
import Derived.Test.Qxb6609148aW1
import Derived.Test.Qxb6609148aLen
import Derived.Laws.BitsAllLaws
namespace Go.Proofs.Qxb6609148a
open Go.RowKit

/-! The plain side: bits and bytes of a number. -/
theorem bitLen_char : ∀ (n x : Nat), x ≤ n → x < 2 ^ 64 → (x = 0 → Lib.bitLen x = 0) ∧ (x ≠ 0 → 2 ^ (Lib.bitLen x - 1) ≤ x ∧ x < 2 ^ Lib.bitLen x ∧ 0 < Lib.bitLen x)
  | 0, x, h, _ => by
    obtain rfl : x = 0 := by omega
    exact ⟨fun _ => rfl, fun h => absurd rfl h⟩
  | n + 1, x, h, hx => by
    refine ⟨fun h0 => by subst h0; rfl, fun h0 => ?_⟩
    rw [Lib.bitLen_half x h0 hx]
    obtain ⟨i0, i1⟩ := bitLen_char n (x / 2) (by omega) (by omega)
    by_cases hz : x / 2 = 0
    · rw [i0 hz]
      obtain rfl : x = 1 := by omega
      decide
    · obtain ⟨l, u, p⟩ := i1 hz
      obtain ⟨L, hL⟩ : ∃ L, Lib.bitLen (x / 2) = L + 1 := ⟨Lib.bitLen (x / 2) - 1, by omega⟩
      rw [hL] at l u ⊢
      simp only [Nat.add_sub_cancel] at l
      rw [show 1 + (L + 1) - 1 = L + 1 by omega, show 1 + (L + 1) = L + 2 by omega]
      rw [Nat.pow_succ] at u
      refine ⟨?_, ?_, by omega⟩
      · rw [Nat.pow_succ]; omega
      · rw [Nat.pow_succ, Nat.pow_succ]; omega

/-- How many bytes a number takes. -/
def Bytes (a c : Nat) : Prop := (a = 0 → c = 0) ∧ (a ≠ 0 → 0 < c ∧ 256 ^ (c - 1) ≤ a) ∧ a < 256 ^ c

theorem bytes_of_bits {a s c : Nat} (ha : a < 2 ^ 64) (hs : s < 2 ^ 64) (h0 : a = 0 → s = 0) (hle : a ≤ s) (hub : ∀ L, a < 2 ^ L → s < 2 ^ L) (hc : Bytes a c) : (Lib.bitLen s + 7) / 8 = c := by
  obtain ⟨c0, c1, c2⟩ := hc
  by_cases hz : a = 0
  · rw [(bitLen_char s s (Nat.le_refl _) hs).1 (h0 hz), c0 hz]
  · obtain ⟨hp, hl⟩ := c1 hz
    obtain ⟨l, u, p⟩ := (bitLen_char s s (Nat.le_refl _) hs).2 (by omega)
    have e : ∀ k, 256 ^ k = 2 ^ (8 * k) := fun k => by rw [Nat.pow_mul]
    rw [e] at hl c2
    have h1 : 8 * (c - 1) < Lib.bitLen s := (Nat.pow_lt_pow_iff_right (a := 2) (by omega)).1 (by omega)
    have h2 : Lib.bitLen s - 1 < 8 * c := (Nat.pow_lt_pow_iff_right (a := 2) (by omega)).1 (Nat.lt_of_le_of_lt l (hub _ c2))
    omega

theorem bytes_end {a t : Nat} (h : 0 = a / 256 ^ t) (h2 : t = 0 ∨ 256 ^ (t - 1) ≤ a) : Bytes a t := by
  have hp : 0 < 256 ^ t := Nat.pow_pos (by omega)
  have hlt : a < 256 ^ t := by
    rcases Nat.lt_or_ge a (256 ^ t) with h3 | h3
    · exact h3
    · have := Nat.div_pos h3 hp; omega
  refine ⟨fun h0 => ?_, fun h0 => ?_, hlt⟩
  · rcases h2 with h2 | h2
    · exact h2
    · have : 0 < 256 ^ (t - 1) := Nat.pow_pos (by omega); omega
  · rcases h2 with h2 | h2
    · subst h2; simp at hlt; omega
    · refine ⟨?_, h2⟩
      rcases Nat.eq_zero_or_pos t with h3 | h3
      · subst h3; simp at hlt; omega
      · exact h3
theorem bytes_lt {a t k : Nat} (ha : a < 18446744073709551616) (h : k = a / 256 ^ t) (hk : k ≠ 0) : t < 8 := by
  rcases Nat.lt_or_ge t 8 with h3 | h3
  · exact h3
  · have : 256 ^ 8 ≤ 256 ^ t := Nat.pow_le_pow_right (by omega) h3
    have : a / 256 ^ t = 0 := Nat.div_eq_of_lt (by omega)
    omega
theorem bytes_step {a t k : Nat} (h : k = a / 256 ^ t) (hk : k ≠ 0) : k / 256 = a / 256 ^ (t + 1) ∧ (t + 1 = 0 ∨ 256 ^ (t + 1 - 1) ≤ a) := by
  refine ⟨by rw [h, Nat.pow_succ, Nat.div_div_eq_div_mul], .inr ?_⟩
  simp only [Nat.add_sub_cancel]
  rcases Nat.lt_or_ge a (256 ^ t) with h3 | h3
  · have := Nat.div_eq_of_lt h3; omega
  · exact h3

set_option maxRecDepth 8000 in
set_option maxHeartbeats 1000000 in
theorem byteCount_any (a : Nat) (w : World) (ha : a < 18446744073709551616) :
    Calls Try.prog 14 #[.int .u64 a] w fun e w' => (∃ c : Nat, e = .returned (.int .i64 c) ∧ Bytes a c ∧ c ≤ 8) ∧ w = w' := by
  go_enter Try.func14, Try.ntmps14
  go_wp2
  go_loopg [0, 3] a (fun k v i wr => ∃ t : Nat, v = .int .u64 k ∧ i = .int .i64 t ∧ wr = w ∧ Hid (k = a / 256 ^ t ∧ (t = 0 ∨ 256 ^ (t - 1) ≤ a)) ∧ t ≤ 8)
  case atStart => exact ⟨0, rfl, rfl, rfl, ⟨by simp, .inl rfl⟩, by omega⟩
  case round =>
    obtain ⟨t, rfl, rfl, rfl, ht, ht8⟩ := hrel
    by_cases h0 : gk = 0
    · subst h0
      go_wp2
      go_ret
      obtain ⟨h1, h2⟩ := ht.out
      exact ⟨⟨t, rfl, bytes_end h1 h2, ht8⟩, rfl⟩
    · have h1 : ((gk : Int) == 0) = false := by simp; omega
      have t8 : t < 8 := bytes_lt ha ht.out.1 h0
      go_wp2
      go_roundg (gk / 256)
      case measure => omega
      case rel => exact ⟨t + 1, by go_num, by go_num, rfl, bytes_step ht.out.1 h0, by omega⟩

theorem bits_Len (x : Nat) (w : World) (h1 : x < 18446744073709551616) :
    Calls Try.prog 40 #[.int .u64 x] w fun e w' => e = .returned (.int .i64 (Lib.bitLen x)) ∧ w = w' := by
  go_enter Try.func40, Try.ntmps40
  go_wp2_with fail
  refine (bits_Len64 x _ (by omega) (by omega)).mono ?_
  rintro e w' ⟨rfl, rfl⟩
  go_wp2
  go_ret
  exact ⟨rfl, rfl⟩

theorem neg_wrap {x : Int} (h0 : -9223372036854775808 ≤ x) (hx : x < 0) : IntKind.u64.wrap (-IntKind.u64.wrap x) = (x.natAbs : Int) := by
  rw [IntKind.wrap_u64, IntKind.wrap_u64]; omega

theorem ret_i64 {a b : Int} (h : a = b) : Ending.returned (.int .i64 a) = .returned (.int .i64 b) := by rw [h]
theorem ret_u64 {a b : Int} (h : a = b) : Ending.returned (.int .u64 a) = .returned (.int .u64 b) := by rw [h]

set_option maxRecDepth 8000 in
set_option maxHeartbeats 400000 in
theorem absU64_any (x : Int) (w : World) (h0 : -9223372036854775808 ≤ x) (h1 : x ≤ 9223372036854775807) :
    Calls Try.prog 15 #[.int .i64 x] w fun e w' => e = .returned (.int .u64 x.natAbs) ∧ w = w' := by
  by_cases hx : x < 0
  · go_enter Try.func15, Try.ntmps15
    go_wp2
    go_ret
    exact ⟨ret_u64 (neg_wrap h0 hx), rfl⟩
  · go_enter Try.func15, Try.ntmps15
    go_wp2
    go_ret
    exact ⟨ret_u64 (by omega), rfl⟩

/-- A big.Int of this magnitude lies behind the pointer, in blocks from B on. -/
def IntIn (B : Nat) (w : World) (p : Option Addr) (a : Nat) : Prop :=
  ∃ b neg, p = some ⟨b, 0, none⟩ ∧ B ≤ b ∧ b < w.heap.size ∧ w.cell? ⟨b, 0, none⟩ = some (.bool neg) ∧
    ((a = 0 ∧ w.cell? ⟨b, 1, none⟩ = some (.slice none 0 0)) ∨ ∃ g, B ≤ g ∧ g < w.heap.size ∧ w.cell? ⟨b, 1, none⟩ = some (.slice (some ⟨g, 0, none⟩) 1 1) ∧ w.cell? ⟨g, 0, none⟩ = some (.int .u64 a))
abbrev IntAt (w : World) (p : Option Addr) (a : Nat) : Prop := IntIn 0 w p a
theorem IntIn.later {B : Nat} {w w' : World} {p : Option Addr} {a : Nat} (h : IntIn B w p a) (hb : Below w.heap.size w w') : IntIn B w' p a := by
  obtain ⟨b, neg, rfl, hB, hl, c0, h⟩ := h
  refine ⟨b, neg, rfl, hB, Nat.lt_of_lt_of_le hl hb.size, (hb.cell (p := ⟨b, 0, none⟩) hl).trans c0, ?_⟩
  rcases h with ⟨h0, h1⟩ | ⟨g, hg0, hg, c1, c2⟩
  · exact .inl ⟨h0, (hb.cell (p := ⟨b, 1, none⟩) hl).trans h1⟩
  · exact .inr ⟨g, hg0, Nat.lt_of_lt_of_le hg hb.size, (hb.cell (p := ⟨b, 1, none⟩) hl).trans c1, (hb.cell (p := ⟨g, 0, none⟩) hg).trans c2⟩
theorem IntIn.mono {B B' : Nat} {w : World} {p : Option Addr} {a : Nat} (h : IntIn B w p a) (hB : B' ≤ B) : IntIn B' w p a := by
  obtain ⟨b, neg, rfl, hb, hl, c0, h⟩ := h
  refine ⟨b, neg, rfl, by omega, hl, c0, ?_⟩
  rcases h with h | ⟨g, hg0, r⟩
  · exact .inl h
  · exact .inr ⟨g, by omega, r⟩
theorem IntIn.setCell {B : Nat} {w : World} {p : Option Addr} {a : Nat} (h : IntIn B w p a) {q : Addr} (hq : q.block < B) (v : Value) : IntIn B (w.setCell q v) p a := by
  have e : ∀ b k, B ≤ b → (w.setCell q v).cell? ⟨b, k, none⟩ = w.cell? ⟨b, k, none⟩ := fun b k hb => World.cell?_setCell_other _ _ _ _ (fun e => by rw [e] at hq; simp at hq; omega)
  have sz : (w.setCell q v).heap.size = w.heap.size := by simp [World.setCell]
  obtain ⟨b, neg, rfl, hB, hl, c0, h⟩ := h
  refine ⟨b, neg, rfl, hB, by rw [sz]; exact hl, (e _ _ hB).trans c0, ?_⟩
  rcases h with ⟨h0, h1⟩ | ⟨g, hg0, hg, c1, c2⟩
  · exact .inl ⟨h0, (e _ _ hB).trans h1⟩
  · exact .inr ⟨g, hg0, by rw [sz]; exact hg, (e _ _ hB).trans c1, (e _ _ hg0).trans c2⟩

def RetInt64 (e : Ending) (B : Nat) (w : World) (a : Nat) : Prop := ∃ p, e = .returned (.pointer p) ∧ IntIn B w p a

set_option maxRecDepth 8000 in
set_option maxHeartbeats 400000 in
theorem newInt_any (x : Int) (w : World) (h0 : -9223372036854775808 ≤ x) (h1 : x ≤ 9223372036854775807) :
    Calls Try.prog 28 #[.int .i64 x] w fun e w' => RetInt64 e w.heap.size w' x.natAbs ∧ Below w.heap.size w w' := by
  by_cases hx : x < 0
  · have E := neg_wrap h0 hx
    have HE : Hid (IntKind.u64.wrap (-IntKind.u64.wrap x) = (x.natAbs : Int)) := E
    clear E
    go_enter Try.func28, Try.ntmps28
    go_wp2
    go_ret
    refine ⟨⟨_, rfl, w.heap.size + 1, true, rfl, by omega, by simp, by simp [go_sem], .inr ⟨w.heap.size, by omega, by simp; omega, by simp [go_sem], ?_⟩⟩, ((Below.refl _ _).alloc (Nat.le_refl _) _).alloc (by simp) _⟩
    rw [← HE.out]; simp [go_sem]
  · by_cases hz : x = 0
    · subst hz
      go_enter Try.func28, Try.ntmps28
      go_wp2
      go_ret
      exact ⟨⟨_, rfl, w.heap.size, false, rfl, by omega, by simp, by simp [go_sem], .inl ⟨rfl, by simp [go_sem]⟩⟩, (Below.refl _ _).alloc (Nat.le_refl _) _⟩
    · have HE : Hid (x = (x.natAbs : Int)) := by show x = _; omega
      go_enter Try.func28, Try.ntmps28
      go_wp2
      go_ret
      refine ⟨⟨_, rfl, w.heap.size + 1, false, rfl, by omega, by simp, by simp [go_sem], .inr ⟨w.heap.size, by omega, by simp; omega, by simp [go_sem], ?_⟩⟩, ((Below.refl _ _).alloc (Nat.le_refl _) _).alloc (by simp) _⟩
      rw [← HE.out]; simp [go_sem]

/-- s has as many bits as x. -/
def Good (x s : Nat) : Prop := x ≤ s ∧ s < 2 ^ 64 ∧ (x = 0 → s = 0) ∧ ∀ L, x < 2 ^ L → s < 2 ^ L
theorem Good.trans {x s t : Nat} (h : Good x s) (k : Good s t) : Good x t :=
  ⟨Nat.le_trans h.1 k.1, k.2.1, fun e => k.2.2.1 (h.2.2.1 e), fun L hL => k.2.2.2 L (h.2.2.2 L hL)⟩
theorem smear (x : Nat) (hx : x < 2 ^ 64) (k : Nat) (d : Int) (hd : d = (k : Int)) : ∃ s : Nat, bits .or .u64 (x : Int) ((x : Int) / d) = (s : Int) ∧ Good x s := by
  have hle : x / k ≤ x := Nat.div_le_self _ _
  refine ⟨x ||| x / k, ?_, Nat.left_le_or, Nat.or_lt_two_pow hx (by omega), fun h => by subst h; simp, fun L hL => Nat.or_lt_two_pow hL (by omega)⟩
  subst hd
  have := u64_or_nat x (x / k) (by omega) (by omega)
  rwa [Int.natCast_ediv] at this

set_option maxRecDepth 8000 in
set_option maxHeartbeats 400000 in
theorem bitLen_any (x : Nat) (g : Nat) (w : World) (h1 : x < 18446744073709551616) (hc : w.cell? ⟨g, 0, none⟩ = some (.int .u64 x)) :
    Calls Try.prog 39 #[.slice (some ⟨g, 0, none⟩) 1 1] w fun e w' => (∃ s, e = .returned (.int .i64 (Lib.bitLen s)) ∧ Good x s ∧ Lib.bitLen s ≤ 64) ∧ w = w' := by
  obtain ⟨s1, e1, g1⟩ := smear x h1 2 2 rfl
  obtain ⟨s2, e2, g2⟩ := smear s1 g1.2.1 4 4 rfl
  obtain ⟨s3, e3, g3⟩ := smear s2 g2.2.1 16 16 rfl
  obtain ⟨s4, e4, g4⟩ := smear s3 g3.2.1 256 256 rfl
  obtain ⟨s5, e5, g5⟩ := smear s4 g4.2.1 65536 65536 rfl
  obtain ⟨s6, e6, g6⟩ := smear s5 g5.2.1 4294967296 4294967296 rfl
  have e6' : bits .or .u64 (s5 : Int) ((s5 : Int) / 65536 / 65536) = (s6 : Int) := by rw [← e6]; congr 1; omega
  clear e6
  have G : Hid (Good x s6) := ((((g1.trans g2).trans g3).trans g4).trans g5).trans g6
  have b1 := g1.2.1
  have b2 := g2.2.1
  have b3 := g3.2.1
  have b4 := g4.2.1
  have b5 := g5.2.1
  have b6 := g6.2.1
  clear g1 g2 g3 g4 g5 g6
  have hL : Lib.bitLen s6 ≤ 64 := by
    have hch := bitLen_char s6 s6 (Nat.le_refl _) b6
    by_cases hz : s6 = 0
    · rw [hch.1 hz]; omega
    · have := (hch.2 hz).1
      have : Lib.bitLen s6 - 1 < 64 := (Nat.pow_lt_pow_iff_right (a := 2) (by omega)).1 (by omega)
      omega
  go_enter Try.func39, Try.ntmps39
  go_wp2_with fail
  refine (bits_Len s6 _ b6).mono ?_
  rintro e w' ⟨rfl, rfl⟩
  go_wp2
  go_ret
  exact ⟨⟨s6, rfl, G.out, hL⟩, rfl⟩

set_option maxHeartbeats 400000 in
theorem bitLen_nil (w : World) : Calls Try.prog 39 #[.slice none 0 0] w fun e w' => e = .returned (.int .i64 0) ∧ w = w' := by
  go_enter Try.func39, Try.ntmps39
  go_wp2
  go_ret
  exact ⟨rfl, rfl⟩

/-- mm is the number of bytes of a. -/
def Mag (a mm : Nat) : Prop := ∀ c, Bytes a c → mm = c

set_option maxHeartbeats 400000 in
theorem magnitude_any (p : Option Addr) (a : Nat) (w : World) (ha : a < 18446744073709551616) (hp : IntAt w p a) :
    Calls Try.prog 24 #[.pointer p] w fun e w' => (∃ mm : Nat, e = .returned (.int .i64 mm) ∧ Mag a mm ∧ mm ≤ 8) ∧ w = w' := by
  obtain ⟨b, neg, rfl, _, hl, c0, h⟩ := hp
  rcases h with ⟨rfl, c1⟩ | ⟨g, _, hg, c1, c2⟩
  · go_enter Try.func24, Try.ntmps24
    go_wp2_with (first | (go_at_call 39; refine (bitLen_nil _).mono ?_; rintro e w' ⟨rfl, rfl⟩) | go_in)
    go_ret
    exact ⟨⟨0, rfl, fun c hc => (hc.1 rfl).symm, by omega⟩, rfl⟩
  · go_enter Try.func24, Try.ntmps24
    go_wp2_with (first | (go_at_call 39; refine (bitLen_any a g _ ha c2).mono ?_; rintro e w' ⟨⟨s, rfl, hG, hL⟩, rfl⟩) | go_in)
    go_ret
    refine ⟨⟨(Lib.bitLen s + 7) / 8, ret_i64 (a := ((Lib.bitLen s : Int) + 7) / 8) (by omega), fun c hc => bytes_of_bits ha hG.2.1 hG.2.2.1 hG.1 hG.2.2.2 hc, by omega⟩, rfl⟩

set_option maxHeartbeats 400000 in
theorem big_any (p : Option Addr) (a : Nat) (w : World) (hp : IntAt w p a) :
    Calls Try.prog 25 #[.agg #[.pointer p]] w fun e w' => e = .returned (.pointer p) ∧ Below w.heap.size w w' := by
  obtain ⟨b, neg, rfl, _, hl, c0, h⟩ := hp
  go_enter Try.func25, Try.ntmps25
  go_wp2
  go_ret
  exact ⟨rfl, (Below.refl _ _).alloc (Nat.le_refl _) _⟩

set_option maxHeartbeats 400000 in
theorem ZZinteger_any (x : Int) (w : World) (h0 : -9223372036854775808 ≤ x) (h1 : x ≤ 9223372036854775807) :
    Calls Try.prog 12 #[.int .i64 x] w fun e w' => (∃ p, e = .returned (.agg #[.pointer p]) ∧ IntAt w' p x.natAbs) ∧ Below w.heap.size w w' := by
  go_enter Try.func12, Try.ntmps12
  go_wp2_with fail
  refine (newInt_any x _ h0 h1).mono ?_
  rintro e w1 ⟨⟨p, rfl, hi⟩, hb⟩
  have hg1 : w1.heap[w.heap.size]? = some (.cells #[.pointer none] 36 (0, 0)) := by
    rw [hb.block _ (by simp)]
    exact heap_alloc_new _ _
  have c0 := cellC hg1 0
  have f0 := frzC hg1 0
  have hbel : Below w.heap.size w w1 := ((Below.refl _ _).alloc (Nat.le_refl _) _).trans (hb.mono (by simp))
  clear hb hg1
  simp at c0
  go_wp2
  refine bodyPost_ret (v := .agg #[.pointer p]) (by simp [results, Try.results12, go_sem, World.cell?_setCell_same _ _ _ c0]) rfl ⟨⟨p, rfl, (hi.setCell (q := ⟨w.heap.size, 0, none⟩) (by simp) _).mono (Nat.zero_le _)⟩, hbel.setCell (p := ⟨w.heap.size, 0, none⟩) (Nat.le_refl _) _⟩
end Go.Proofs.Qxb6609148a
