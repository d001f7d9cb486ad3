import Derived.Test.Qxb6608989aKw3
import Derived.Test.Qxb6608989aLaws
import Derived.Deep.DeepCutAuto
import Derived.Deep.DeepMust
namespace Go.Proofs.Qxb6608989a
open Go.RowKit

theorem Try.info28 : (Try.prog.info? 28).map (fun i => (i.zero, i.size, i.bytes)) = some (some (.agg #[.string ByteArray.empty, .string ByteArray.empty]), 2, 32) := by kernel_rfl

/-- A slice of strings, told by its cells: nil where there is none. -/
def StrsAt (w : World) (a : Option Addr) (L : List ByteArray) : Prop :=
  a.isNone = ((L.length : Int) == 0) ∧ (0 < L.length → ∃ g, a = some ⟨g, 0, none⟩ ∧ g < w.heap.size ∧ ∀ i, i < L.length → w.cell? ⟨g, i, none⟩ = some (.string (L.getD i ByteArray.empty)))
theorem OwnStrs.told {w : World} {B : Nat} {v : Value} {L : List ByteArray} (h : OwnStrs w B v L) : ∃ a cap, v = .slice a L.length cap ∧ StrsAt w a L := by
  rcases h with ⟨rfl, rfl⟩ | ⟨hne, g, cap, rfl, _, hg, hc⟩
  · exact ⟨none, 0, rfl, rfl, fun h => absurd h (by simp)⟩
  · refine ⟨_, _, rfl, ?_, fun _ => ⟨g, rfl, hg, hc⟩⟩
    have : L.length ≠ 0 := fun h => hne (List.eq_nil_of_length_eq_zero h)
    simp [hne]
theorem StrsAt.later {w w' : World} {a : Option Addr} {L : List ByteArray} (h : StrsAt w a L) (hb : Below w.heap.size w w') : StrsAt w' a L := by
  refine ⟨h.1, fun h0 => ?_⟩
  obtain ⟨g, rfl, hg, hc⟩ := h.2 h0
  exact ⟨g, rfl, Nat.lt_of_lt_of_le hg hb.size, fun i hi => (hb.cell (p := ⟨g, i, none⟩) hg).trans (hc i hi)⟩
theorem PairsAt.take {w : World} {a : Option Addr} {n c : Nat} {S : Nat → Nat → ByteArray} (h : PairsAt w a n S) (hc : c ≤ n) : PairsAt w a c S := by
  intro h0
  obtain ⟨b, off, rfl, hg, hcc⟩ := h (by omega)
  exact ⟨b, off, rfl, hg, fun i hi => hcc i (by omega)⟩
/-- A slice that begins at pair c. -/
theorem PairsAt.cut {w : World} {a : Option Addr} {n c cap k : Nat} {S : Nat → Nat → ByteArray} (h : PairsAt w a n S) (hn : n ≤ cap) (hk : c + k ≤ n) : PairsAt w (if cap = c then a else a.map (·.add (c * 2))) k (fun i => S (c + i)) := by
  intro h0
  obtain ⟨b, off, rfl, hg, hcc⟩ := h (by omega)
  rw [if_neg (by omega)]
  refine ⟨b, off + c * 2, by simp [Addr.add_lit], hg, fun i hi => ?_⟩
  have := hcc (c + i) (by omega)
  rwa [show off + (c + i) * 2 = off + c * 2 + i * 2 by omega] at this
theorem PairsAt.later {w w' : World} {a : Option Addr} {n : Nat} {S : Nat → Nat → ByteArray} (h : PairsAt w a n S) (hb : Below w.heap.size w w') : PairsAt w' a n S := by
  intro h0
  obtain ⟨b, off, rfl, hg, hc⟩ := h h0
  exact ⟨b, off, rfl, Nat.lt_of_lt_of_le hg hb.size, fun i hi => ⟨(hb.cell (p := ⟨b, off + i * 2, none⟩) hg).trans (hc i hi).1, (hb.cell (p := ⟨b, off + i * 2 + 1, none⟩) hg).trans (hc i hi).2⟩⟩

theorem keysTo_one_hit (S : Nat → Nat → ByteArray) (sc : ByteArray) (c : Nat) (h : ((S c 0).toList == sc.toList) = true) : keysTo (fun i => S (c + i)) sc 1 = [S c 1] := by
  have := keysTo_hit (fun i => S (c + i)) sc 0 h
  simpa [keysTo] using this
theorem keysTo_one_miss (S : Nat → Nat → ByteArray) (sc : ByteArray) (c : Nat) (h : ((S c 0).toList == sc.toList) = false) : keysTo (fun i => S (c + i)) sc 1 = [] := by
  have := keysTo_miss (fun i => S (c + i)) sc 0 h
  simpa [keysTo] using this
theorem below_chain {w wc w1 w2 w3 w5 : World} {m : Nat} (h1 : Below w.heap.size w wc) (h2 : Below wc.heap.size wc w1) (h3 : Below w1.heap.size w1 w2) (h4 : Below w2.heap.size w2 w3) (h5 : Below (w3.drewN m).heap.size (w3.drewN m) w5) : Below w.heap.size w w5 := by
  have s1 := h1.size
  have s2 := h2.size
  have s3 := h3.size
  have s4 := h4.size
  exact h1.trans ((h2.mono s1).trans ((h3.mono (by omega)).trans ((h4.mono (by omega)).trans ((below_drewN m).trans (h5.mono (by simp; omega))))))
theorem getD_left {α : Type} (A B : List α) (d : α) {i : Nat} (h : i < A.length) : (A ++ B).getD i d = A.getD i d := by simp [List.getD, List.getElem?_append_left h]
theorem getD_right {α : Type} (A B : List α) (d : α) (i : Nat) : (A ++ B).getD (A.length + i) d = B.getD i d := by simp [List.getD, List.getElem?_append_right]

theorem slice_from (a : Option Addr) (n cap c : Nat) (S : Nat → Nat → ByteArray) (hn : n ≤ cap) (hc : c ≤ n) : ∃ a2, (∀ w, (Instr.slice 22 (.slice a n cap) (some (.int .i64 (c : Int))) none none).run Try.prog w = .ok (.slice a2 (n - c) (cap - c)) w) ∧
    ∀ w, PairsAt w a n S → PairsAt w a2 (n - c) (fun i => S (c + i)) := by
  refine ⟨if cap = c then a else a.map (·.add (c * 2)), fun w => ?_, fun w h => h.cut hn (by omega)⟩
  rw [run_slice_l w 22 a n cap (by kernel_rfl) .i64 c (by omega) (by omega)]
  have e : (sizeOf (Try.prog.elem 22)).run Try.prog w = .ok 2 w := by kernel_rfl
  rw [e]
  simp [Result.andThen, sliced]
theorem slice_one (a : Option Addr) (n cap c : Nat) (S : Nat → Nat → ByteArray) (hn : n ≤ cap) (hc : c < n) : ∃ a2, (∀ w, (Instr.slice 22 (.slice a n cap) (some (.int .i64 (c : Int))) (some (.int .i64 ((c : Int) + 1))) none).run Try.prog w = .ok (.slice a2 1 (cap - c)) w) ∧
    ∀ w, PairsAt w a n S → PairsAt w a2 1 (fun i => S (c + i)) := by
  refine ⟨if cap = c then a else a.map (·.add (c * 2)), fun w => ?_, fun w h => h.cut hn (by omega)⟩
  rw [run_slice_lh w 22 a n cap (by kernel_rfl) .i64 .i64 c (c + 1) (by omega) (by omega) (by omega)]
  have e : (sizeOf (Try.prog.elem 22)).run Try.prog w = .ok 2 w := by kernel_rfl
  rw [e]
  simp [Result.andThen, sliced]

/-- The cells of n pairs, one behind the other. -/
def pairCells (S : Nat → Nat → ByteArray) (n : Nat) : List Value := (List.range (n * 2)).map fun i => .string (S (i / 2) (i % 2))
theorem pairCells_length (S : Nat → Nat → ByteArray) (n : Nat) : (pairCells S n).length = n * 2 := by simp [pairCells]
theorem pairCells_one (S : Nat → Nat → ByteArray) (n : Nat) : ∀ v ∈ pairCells S n, v.oneCell' = true := by
  intro v hv
  obtain ⟨i, _, rfl⟩ := List.mem_map.1 hv
  rfl
theorem pairCells_src {w : World} {a0 : Option Addr} {n : Nat} {S : Nat → Nat → ByteArray} (hp : PairsAt w a0 n S) :
    0 < n → ∃ ad, a0 = some ad ∧ ∀ j v, (pairCells S n)[j]? = some v → w.cell? (ad.add j) = some v ∧ ad.block < w.heap.size := by
  intro h
  obtain ⟨b, off, rfl, hb, hc⟩ := hp h
  refine ⟨_, rfl, fun j v hj => ⟨?_, hb⟩⟩
  have hjl := (List.getElem?_eq_some_iff.1 hj).1
  rw [pairCells_length] at hjl
  have hv : v = .string (S (j / 2) (j % 2)) := by
    have := hj
    simp [pairCells, hjl] at this
    exact this.symm
  subst hv
  obtain ⟨c0, c1⟩ := hc (j / 2) (by omega)
  rw [Addr.add_lit]
  rcases Nat.mod_two_eq_zero_or_one j with h2 | h2
  · rw [h2, show off + j = off + j / 2 * 2 by omega]; exact c0
  · rw [h2, show off + j = off + j / 2 * 2 + 1 by omega]; exact c1
theorem pairsAt_copied (w : World) (n m : Nat) (S : Nat → Nat → ByteArray) (t : TypeId) : PairsAt ((w.alloc (.cells (pairCells S n).toArray t)).drewN m) (some ⟨w.heap.size, 0, none⟩) n S := by
  intro h
  refine ⟨_, _, rfl, by simp, fun i hi => ?_⟩
  have e0 : (pairCells S n)[i * 2]? = some (.string (S i 0)) := by
    simp [pairCells, show i * 2 < n * 2 by omega]
  have e1 : (pairCells S n)[i * 2 + 1]? = some (.string (S i 1)) := by
    simp [pairCells, show i * 2 + 1 < n * 2 by omega, show (i * 2 + 1) / 2 = i by omega]
  exact ⟨by simpa using e0, by simpa using e1⟩

set_option maxRecDepth 8000 in
set_option maxHeartbeats 1000000 in
theorem law3_walk (a0 : Option Addr) (n cap : Nat) (S : Nat → Nat → ByteArray) (sc : ByteArray) (c : Int) (w : World) (hn : n ≤ cap) (hm : cap ≤ 9223372036854775807) (hp : PairsAt w a0 n S) (hnil : a0 = none → n = 0 ∧ cap = 0) :
    Calls Try.prog 3 #[.slice a0 n cap, .string sc, .int .i64 c] w fun e w' => e = .returned (.bool true) ∧ Below w.heap.size w w' := by
  have hne := fun w => run_neq_slice_nil_any (P := Try.prog) w 22 28 a0 n cap 0 0 Try.underlying22
  go_enter Try.func3, Try.ntmps3
  go_upto_if 42 with (first
    | (go_at_call 7; refine (zzBytes7_any _ _ _ S _ _ _ (by omega) hp).mono ?_; rintro e w' ⟨⟨r, rfl⟩, rfl⟩; cases r)
    | (go_at_call 8; refine (pairsFit_any _ _ _ S _ _ (by omega) hp).mono ?_; rintro e w' ⟨⟨r, rfl⟩, m, rfl⟩; cases r))
  · go_ret; exact ⟨rfl, Below.refl _ _⟩
  · go_ret; exact ⟨rfl, Below.refl _ _⟩
  · go_ret; exact ⟨rfl, below_drewN _⟩
  · go_ret; exact ⟨rfl, below_drewN _⟩
  · obtain ⟨c, rfl⟩ := Int.eq_ofNat_of_zero_le (show 0 ≤ c by omega)
    go_cut [0] (fun v wr => ∃ a1 cap1, v = .slice a1 n cap1 ∧ n ≤ cap1 ∧ cap1 ≤ 9223372036854775807 ∧ PairsAt wr a1 n S ∧ Below w.heap.size w wr)
    case first =>
      cases a0 with
      | none =>
        clear hnil
        go_wp2
        go_meet
        case rel => exact ⟨_, _, rfl, hn, hm, hp, below_drewN _⟩
      | some a =>
        clear hnil hne
        have hmk := make_any (P := Try.prog) 22 28 _ 2 32 Try.underlying22 Try.info28 .i64 .i64 n (by omega) (by omega)
        obtain ⟨C0, hC0⟩ : ∃ C0, C0 = madeCells (Value.agg #[.string ByteArray.empty, .string ByteArray.empty]).cells (n * 2) := ⟨_, rfl⟩
        have HC0 : Hid (C0.size = n * 2) := by rw [hC0]; exact size_madeCells _ _
        rw [← hC0] at hmk
        clear hC0
        go_wp2_with (refine wpList_copy_new (.tmp 46) (.tmp 47) 22 22 rfl rfl 28 2 Try.underlying22 (by kernel_rfl) w C0 28 m n rfl _ _ rfl rfl (pairCells S n) (pairCells_length _ _) HC0.out (pairCells_src hp) (pairCells_one _ _) ?_)
        go_meet
        case rel => exact ⟨_, _, rfl, Nat.le_refl _, by omega, pairsAt_copied _ _ _ _ _, ((Below.refl _ _).alloc (Nat.le_refl _) _).trans (below_drewN _)⟩
    case rest =>
      obtain ⟨a1, cap1, rfl, hn1, hm1, hp1, hb1⟩ := hcut
      go_wp2_with fail
      refine (ZZkeysIn_any _ _ _ S _ _ (by omega) hp1).mono ?_
      rintro e w1 ⟨v1, rfl, hv1, hb2⟩
      obtain ⟨b1, k1, rfl, hs1⟩ := hv1.told
      have hp2 := hp1.later hb2
      obtain ⟨a2, hsl, hcut⟩ := slice_from a1 n cap1 c S hn1 (by omega)
      go_wp2_with fail
      refine (ZZkeysIn_any _ _ _ S _ _ (by omega) (hp2.take (c := c) (by omega))).mono ?_
      rintro e w2 ⟨v2, rfl, hv2, hb3⟩
      obtain ⟨b2, k2, rfl, hs2⟩ := hv2.told
      have hp3 := hp2.later hb3
      go_wp2_with fail
      refine (ZZkeysIn_any _ _ _ (fun i => S (c + i)) _ _ (by omega) (hcut _ hp3)).mono ?_
      rintro e w3 ⟨v3, rfl, hv3, hb4⟩
      obtain ⟨b3, k3, rfl, hs3⟩ := hv3.told
      have hp4 := hp3.later hb4
      clear hsl hcut
      go_wp2_with fail
      refine (countScope_any _ _ _ S _ n _ (by omega) (Nat.le_refl _) hp4).mono ?_
      rintro e w4 ⟨rfl, rfl⟩
      have HL : Hid (keysTo S sc n = keysTo S sc c ++ keysTo (fun i => S (c + i)) sc (n - c)) := by
        have := keysTo_add S sc c (n - c)
        rwa [show c + (n - c) = n by omega] at this
      have hl1 : (keysTo S sc n).length ≤ (keysTo S sc c).length + (keysTo (fun i => S (c + i)) sc (n - c)).length := by rw [HL.out]; simp
      have hl2 : (keysTo S sc c).length + (keysTo (fun i => S (c + i)) sc (n - c)).length ≤ (keysTo S sc n).length := by rw [HL.out]; simp
      have hl3 := keysTo_le S sc n
      have hq1 := fun w => Lib.run_eql_slice_nil (P := Try.prog) w 25 9 b1 (keysTo S sc n).length k1 0 0 Try.underlying25
      have hi1 := hs1.1
      have hd1 := (hs1.later hb3).later hb4
      have hd2 := hs2.later hb4
      have hd3 := hs3
      clear hs1 hs2 hs3 hp1 hp2 hp3 hv1 hv2 hv3 hp hne hnil
      go_wp2_with fail
      clear hq1 hi1
      go_loopg [12] (keysTo S sc c).length (fun k i wr => ∃ j m : Nat, k + j = (keysTo S sc c).length ∧ i = .int .i64 j ∧ wr = w3.drewN m)
      case atStart => exact ⟨0, 0, rfl, rfl, rfl⟩
      case round =>
        obtain ⟨j, m, hk, rfl, rfl⟩ := hrel
        by_cases hlt : j < (keysTo S sc c).length
        · obtain ⟨g1, rfl, hg1, hc1⟩ := hd1.2 (by omega)
          obtain ⟨g2, rfl, hg2, hc2⟩ := hd2.2 (by omega)
          have e1 := hc1 j (by omega)
          have e2 := hc2 j (by omega)
          rw [HL.out, getD_left _ _ _ hlt] at e1
          clear hc1 hc2
          go_wp2
          go_quiet (fail)
          go_wp2
          go_roundg (gk - 1)
          case measure => omega
          case rel => exact ⟨j + 1, _, by omega, by go_num, rfl⟩
        · go_wp2
          go_loopg [13] (keysTo (fun i => S (c + i)) sc (n - c)).length (fun k i wr => ∃ j m : Nat, k + j = (keysTo (fun i => S (c + i)) sc (n - c)).length ∧ i = .int .i64 j ∧ wr = w3.drewN m)
          case atStart => exact ⟨0, _, rfl, rfl, rfl⟩
          case round =>
            obtain ⟨j, m, hk, rfl, rfl⟩ := hrel
            by_cases hlt : j < (keysTo (fun i => S (c + i)) sc (n - c)).length
            · obtain ⟨g1, rfl, hg1, hc1⟩ := hd1.2 (by omega)
              obtain ⟨g3, rfl, hg3, hc3⟩ := hd3.2 (by omega)
              have e1 := hc1 ((keysTo S sc c).length + j) (by omega)
              have e2 := hc3 j (by omega)
              rw [HL.out, getD_right] at e1
              clear hc1 hc3
              go_wp2
              go_quiet (fail)
              go_wp2
              go_roundg (gk - 1)
              case measure => omega
              case rel => exact ⟨j + 1, _, by omega, by go_num, rfl⟩
            · by_cases hcn : c < n
              · obtain ⟨a2, hsl, hcut⟩ := slice_one a1 n cap1 c S hn1 hcn
                go_wp2_with fail
                refine (ZZkeysIn_any _ _ _ (fun i => S (c + i)) _ _ (by omega) (hcut _ (hp4.later (below_drewN _)))).mono ?_
                rintro e w5 ⟨v5, rfl, hv5, hb5⟩
                have hp5 := (hp4.later (below_drewN m)).later hb5
                have hbel : Below w.heap.size w w5 := below_chain hb1 hb2 hb3 hb4 hb5
                obtain ⟨b, off, rfl, hg, hcc⟩ := hp5 (by omega)
                obtain ⟨f0, f1⟩ := hcc c hcn
                clear hcc hp5 hp4 hcut hsl hd1 hd2 hd3
                by_cases ht : ((S c 0).toList == sc.toList) = true
                · rw [keysTo_one_hit S sc c ht] at hv5
                  obtain ⟨b5, k5, rfl, hs5⟩ := hv5.told
                  obtain ⟨g5, rfl, hg5, hc5⟩ := hs5.2 (by simp)
                  have f2 := hc5 0 (by simp)
                  simp only [List.getD_cons_zero] at f2
                  clear hc5 hs5 hv5
                  go_wp2
                  go_quiet (fail)
                  go_wp2
                  go_ret
                  exact ⟨rfl, hbel.trans (below_drewN _)⟩
                · have ht' : ((S c 0).toList == sc.toList) = false := by simpa using ht
                  rw [keysTo_one_miss S sc c ht'] at hv5
                  rcases hv5 with ⟨_, rfl⟩ | ⟨h, _⟩
                  · have hq5 := fun w => Lib.run_eql_slice_nil (P := Try.prog) w 25 9 none 0 0 0 0 Try.underlying25
                    go_wp2
                    go_ret
                    exact ⟨rfl, hbel⟩
                  · exact absurd rfl h
              · go_wp2_with fail
                go_ret
                exact ⟨rfl, below_chain hb1 hb2 hb3 hb4 (Below.refl _ _)⟩
  · go_ret; exact ⟨rfl, below_drewN _⟩
  · go_ret; exact ⟨rfl, Below.refl _ _⟩
end Go.Proofs.Qxb6608989a
