/- The walk of the second law on keysIn. -/
import Derived.Test.Qxb6608989aKw5
namespace Go.Proofs.Qxb6608989a
open Go.RowKit

/-- The list with the pair (t, key) put in at p. -/
def insS (S : Nat → Nat → ByteArray) (p : Nat) (t key : ByteArray) : Nat → Nat → ByteArray :=
  fun i j => if i < p then S i j else if i = p then (if j = 0 then t else key) else S (i - 1) j

theorem keysTo_ins (S : Nat → Nat → ByteArray) (sc : ByteArray) (p n : Nat) (t key : ByteArray) (h : p ≤ n) :
    keysTo (insS S p t key) sc (n + 1) = keysTo S sc p ++ ((if t.toList == sc.toList then [key] else []) ++ keysTo (fun i => S (p + i)) sc (n - p)) := by
  have e : n + 1 = p + (1 + (n - p)) := by omega
  rw [e, keysTo_add, keysTo_add]
  congr 1
  · exact keysTo_congr _ _ _ _ (fun i hi => by funext j; simp [insS, hi])
  · congr 1
    · simp [keysTo, insS]
    · refine keysTo_congr _ _ _ _ (fun i hi => ?_)
      funext j
      have h1 : ¬ p + (1 + i) < p := by omega
      have h2 : ¬ p + (1 + i) = p := by omega
      simp only [insS, h1, h2, if_false]
      rw [show p + (1 + i) - 1 = p + i by omega]

theorem keysTo_ins_miss (S : Nat → Nat → ByteArray) (sc : ByteArray) (p n : Nat) (t key : ByteArray) (h : p ≤ n) (ht : (t.toList == sc.toList) = false) :
    keysTo (insS S p t key) sc (n + 1) = keysTo S sc n := by
  rw [keysTo_ins S sc p n t key h, if_neg (by simp [ht])]
  have := keysTo_add S sc p (n - p)
  rw [show p + (n - p) = n by omega] at this
  rw [this]; simp
theorem keysTo_ins_hit (S : Nat → Nat → ByteArray) (sc : ByteArray) (p n : Nat) (t key : ByteArray) (h : p ≤ n) (ht : (t.toList == sc.toList) = true) :
    keysTo (insS S p t key) sc (n + 1) = keysTo S sc p ++ key :: keysTo (fun i => S (p + i)) sc (n - p) := by
  rw [keysTo_ins S sc p n t key h, if_pos ht]; rfl

theorem insS_past {S : Nat → Nat → ByteArray} {p i : Nat} {t key : ByteArray} {j : Nat} (h : p ≤ i) : insS S p t key (i + 1) j = S i j := by
  have h1 : ¬ i + 1 < p := by omega
  have h2 : ¬ i + 1 = p := by omega
  simp [insS, h1, h2]
theorem below_three {w wd w1 w2 : World} (h1 : Below w.heap.size w wd) (h2 : Below wd.heap.size wd w1) (h3 : Below w1.heap.size w1 w2) : Below w.heap.size w w2 := by
  have s1 := h1.size
  have s2 := h2.size
  exact h1.trans ((h2.mono s1).trans (h3.mono (by omega)))

/-- The first j pairs of S lie in the array. -/
def Filled (C : Array Value) (S : Nat → Nat → ByteArray) (j : Nat) : Prop := ∀ i, i < j → C[i * 2]? = some (.string (S i 0)) ∧ C[i * 2 + 1]? = some (.string (S i 1))
theorem Filled.set {C : Array Value} {n j : Nat} {S : Nat → Nat → ByteArray} {x y : ByteArray} (h : Filled C S j) (hs : C.size = n * 2) (hj : j < n) (hx : S j 0 = x) (hy : S j 1 = y) :
    Filled ((C.setIfInBounds (j * 2) (.string x)).setIfInBounds (j * 2 + 1) (.string y)) S (j + 1) := by
  subst hx; subst hy
  exact pairs_set hs hj h
theorem Filled.congr {C : Array Value} {S S' : Nat → Nat → ByteArray} {j : Nat} (h : Filled C S j) (e : ∀ i, i < j → S i = S' i) : Filled C S' j := by
  intro i hi
  rw [← e i hi]; exact h i hi
theorem pairsAt_filled (w : World) (C : Array Value) (n : Nat) (S : Nat → Nat → ByteArray) (t : TypeId) (h : Filled C S n) : PairsAt (w.alloc (.cells C t)) (some ⟨w.heap.size, 0, none⟩) n S := by
  intro _
  refine ⟨_, _, rfl, by simp, fun i hi => ?_⟩
  obtain ⟨h1, h2⟩ := h i hi
  exact ⟨by simpa using h1, by simpa using h2⟩

set_option maxRecDepth 8000 in
set_option maxHeartbeats 1000000 in
theorem law4_walk (a0 : Option Addr) (n cap : Nat) (S : Nat → Nat → ByteArray) (sc : ByteArray) (p : Int) (t key : ByteArray) (w : World) (hn : n ≤ cap) (hm : cap ≤ 9223372036854775807) (hp : PairsAt w a0 n S) (hnil : a0 = none → n = 0 ∧ cap = 0)
    (hs1 : sc.size ≤ 9223372036854775807) (hs2 : t.size ≤ 9223372036854775807) (hs3 : key.size ≤ 9223372036854775807) :
    Calls Try.prog 4 #[.slice a0 n cap, .string sc, .int .i64 p, .string t, .string key] w fun e w' => e = .returned (.bool true) ∧ Below w.heap.size w w' := by
  have hne := fun w => run_neq_slice_nil_any (P := Try.prog) w 22 28 a0 n cap 0 0 Try.underlying22
  go_enter Try.func4, Try.ntmps4
  go_upto_if 67 with (first
    | (go_at_call 11; refine (zzBytes11_any _ _ _ S _ _ _ _ _ (by omega) hp).mono ?_; rintro e w' ⟨⟨r, rfl⟩, rfl⟩; cases r)
    | (go_at_call 8; refine (pairsFit_any _ _ _ S _ _ (by omega) hp).mono ?_; rintro e w' ⟨⟨r, rfl⟩, m, rfl⟩; cases r))
  · go_ret; exact ⟨rfl, Below.refl _ _⟩
  · go_ret; exact ⟨rfl, Below.refl _ _⟩
  · go_ret; first | exact ⟨rfl, Below.refl _ _⟩ | exact ⟨rfl, below_drewN _⟩
  · go_ret; first | exact ⟨rfl, Below.refl _ _⟩ | exact ⟨rfl, below_drewN _⟩
  · obtain ⟨p, rfl⟩ := Int.eq_ofNat_of_zero_le (show 0 ≤ p by omega)
    go_cut [0] (fun v wr => ∃ a1 cap1, v = .slice a1 n cap1 ∧ n ≤ cap1 ∧ cap1 ≤ 9223372036854775807 ∧ PairsAt wr a1 n S ∧ Below w.heap.size w wr)
    case first =>
      cases a0 with
      | none =>
        clear hnil
        go_wp2
        go_meet
        case rel => exact ⟨_, _, rfl, hn, hm, hp, below_drewN _⟩
      | some a =>
        clear hnil hne
        have hmk := make_any (P := Try.prog) 22 28 _ 2 32 Try.underlying22 Try.info28 .i64 .i64 n (by omega) (by omega)
        obtain ⟨C0, hC0⟩ : ∃ C0, C0 = madeCells (Value.agg #[.string ByteArray.empty, .string ByteArray.empty]).cells (n * 2) := ⟨_, rfl⟩
        have HC0 : Hid (C0.size = n * 2) := by rw [hC0]; exact size_madeCells _ _
        rw [← hC0] at hmk
        clear hC0
        go_wp2_with (refine wpList_copy_new (.tmp 71) (.tmp 72) 22 22 rfl rfl 28 2 Try.underlying22 (by kernel_rfl) w C0 28 m n rfl _ _ rfl rfl (pairCells S n) (pairCells_length _ _) HC0.out (pairCells_src hp) (pairCells_one _ _) ?_)
        go_meet
        case rel => exact ⟨_, _, rfl, Nat.le_refl _, by omega, pairsAt_copied _ _ _ _ _, ((Below.refl _ _).alloc (Nat.le_refl _) _).trans (below_drewN _)⟩
    case rest =>
      obtain ⟨a1, cap1, rfl, hn1, hm1, hp1, hb1⟩ := hcut
      have hmk := make_any (P := Try.prog) 22 28 _ 2 32 Try.underlying22 Try.info28 .i64 .i64 (n + 1) (by omega) (by omega)
      obtain ⟨C0, hC0⟩ : ∃ C0, C0 = madeCells (Value.agg #[.string ByteArray.empty, .string ByteArray.empty]).cells ((n + 1) * 2) := ⟨_, rfl⟩
      have HC0 : Hid (C0.size = (n + 1) * 2) := by rw [hC0]; exact size_madeCells _ _
      rw [← hC0, show (((n + 1 : Nat)) : Int) = (n : Int) + 1 from by omega] at hmk
      clear hC0 hne hnil hp
      go_wp2
      clear hmk
      go_loopg [13] p (fun k i wr => ∃ j : Nat, ∃ C : Array Value, k + j = p ∧ i = .int .i64 j ∧ wr = wc.alloc (.cells C 28) ∧ C.size = (n + 1) * 2 ∧ Filled C S j)
      case atStart => exact ⟨0, C0, by omega, rfl, rfl, HC0.out, fun i hi => by omega⟩
      case round =>
        obtain ⟨j, C, hk, rfl, rfl, hCs, hC⟩ := hrel
        have HC : Hid (C.size = (n + 1) * 2 ∧ Filled C S j) := ⟨hCs, hC⟩
        obtain ⟨x0, hx0⟩ : ∃ x, C[j * 2]? = some x := ⟨_, Array.getElem?_eq_getElem (by omega)⟩
        obtain ⟨x1, hx1⟩ : ∃ x, C[j * 2 + 1]? = some x := ⟨_, Array.getElem?_eq_getElem (by omega)⟩
        clear hCs hC
        by_cases hlt : j < p
        · obtain ⟨b, off, rfl, hb, hc⟩ := hp1 (by omega)
          obtain ⟨c0, c1⟩ := hc j (by omega)
          clear hc hp1
          go_wp2
          go_roundg (gk - 1)
          case measure => omega
          case rel => exact ⟨j + 1, _, by omega, by go_num, rfl, by simpa using HC.out.1, HC.out.2.set HC.out.1 (by omega) rfl rfl⟩
        · obtain rfl : j = p := by omega
          have HD : Hid ((((C.setIfInBounds (j * 2) (Value.string t)).setIfInBounds (j * 2 + 1) (Value.string key)).size = (n + 1) * 2) ∧ Filled ((C.setIfInBounds (j * 2) (Value.string t)).setIfInBounds (j * 2 + 1) (Value.string key)) (insS S j t key) (j + 1)) :=
            ⟨by simpa using HC.out.1, (HC.out.2.congr (fun i hi => by funext q; simp [insS, hi])).set HC.out.1 (by omega) (by simp [insS]) (by simp [insS])⟩
          go_wp2
          go_loopg [14] (n - j) (fun k i wr => ∃ q : Nat, ∃ C : Array Value, k + q = n ∧ i = .int .i64 q ∧ wr = wc.alloc (.cells C 28) ∧ j ≤ q ∧ C.size = (n + 1) * 2 ∧ Filled C (insS S j t key) (q + 1))
          case atStart => exact ⟨j, _, by omega, rfl, rfl, Nat.le_refl _, HD.out.1, HD.out.2⟩
          case round =>
            clear HD HC hx0 hx1
            obtain ⟨q, C, hkq, rfl, rfl, hjq, hCs, hC⟩ := hrel
            have HC : Hid (C.size = (n + 1) * 2 ∧ Filled C (insS S j t key) (q + 1)) := ⟨hCs, hC⟩
            by_cases hlt : q < n
            · obtain ⟨x0, hx0⟩ : ∃ x, C[(q + 1) * 2]? = some x := ⟨_, Array.getElem?_eq_getElem (by omega)⟩
              obtain ⟨x1, hx1⟩ : ∃ x, C[(q + 1) * 2 + 1]? = some x := ⟨_, Array.getElem?_eq_getElem (by omega)⟩
              clear hCs hC
              obtain ⟨b, off, rfl, hb, hc⟩ := hp1 (by omega)
              obtain ⟨c0, c1⟩ := hc q (by omega)
              clear hc hp1
              go_wp2
              go_roundg (gk - 1)
              case measure => omega
              case rel => exact ⟨q + 1, _, by omega, by go_num, rfl, by omega, by simpa using HC.out.1, HC.out.2.set HC.out.1 (by omega) (insS_past (by omega)) (insS_past (by omega))⟩
            · obtain rfl : n = q := by omega
              have hq1 := hp1.later ((Below.refl _ _).alloc (Nat.le_refl _) (.cells C 28))
              have hq2 := pairsAt_filled wc C (n + 1) _ 28 hC
              have hb2 := hb1.trans (((Below.refl wc.heap.size wc).alloc (Nat.le_refl _) (.cells C 28)).mono hb1.size)
              clear hp1 hC hCs HC
              go_wp2_with fail
              refine (ZZkeysIn_any _ _ _ S _ _ (by omega) hq1).mono ?_
              rintro e w1 ⟨v1, rfl, hv1, hb3⟩
              have hq3 := hq1.later hb3
              have hq4 := hq2.later hb3
              clear hq1 hq2
              obtain ⟨b1, k1, rfl, hs1⟩ := hv1.told
              go_wp2_with fail
              refine (ZZkeysIn_any _ _ _ (insS S j t key) _ _ (by omega) hq4).mono ?_
              rintro e w2 ⟨v2, rfl, hv2, hb4⟩
              have hq5 := hq3.later hb4
              have hs3 := hs1.later hb4
              have hbel : Below w.heap.size w w2 := below_three hb2 hb3 hb4
              have hi1 := hs1.1
              clear hq3 hq4 hs1 hv1 hb1 hb2 hb3 hb4
              have hq1 := fun w => Lib.run_eql_slice_nil (P := Try.prog) w 25 9 b1 (keysTo S sc n).length k1 0 0 Try.underlying25
              have hl3 := keysTo_le S sc n
              by_cases ht : (t.toList == sc.toList) = true
              · rw [keysTo_ins_hit S sc j n t key (by omega) ht] at hv2
                have HL : Hid (keysTo S sc n = keysTo S sc j ++ keysTo (fun i => S (j + i)) sc (n - j)) := by
                  have := keysTo_add S sc j (n - j)
                  rwa [show j + (n - j) = n by omega] at this
                obtain ⟨L2, hL2⟩ : ∃ L2, L2 = keysTo S sc j ++ key :: keysTo (fun i => S (j + i)) sc (n - j) := ⟨_, rfl⟩
                rw [← hL2] at hv2
                have HL2 : Hid (L2 = keysTo S sc j ++ key :: keysTo (fun i => S (j + i)) sc (n - j)) := hL2
                have hl4 : L2.length ≤ (keysTo S sc n).length + 1 := by rw [hL2, HL.out]; simp; omega
                have hl5 : (keysTo S sc n).length + 1 ≤ L2.length := by rw [hL2, HL.out]; simp; omega
                have hl6 : (keysTo S sc j).length ≤ (keysTo S sc n).length := by rw [HL.out]; simp
                clear hL2
                obtain ⟨b2, k2, rfl, hs4⟩ := hv2.told
                clear hv2
                go_wp2_with fail
                refine (countScope_any _ _ _ S _ n _ (by omega) (Nat.le_refl _) hq5).mono ?_
                rintro e w4 ⟨rfl, rfl⟩
                go_wp2_with fail
                refine (countScope_any _ _ _ S _ j _ (by omega) (by omega) hq5).mono ?_
                rintro e w4 ⟨rfl, rfl⟩
                go_wp2_with fail
                clear hq1 hi1 hq5
                go_loopg [19] (keysTo S sc j).length (fun k i wr => ∃ q m : Nat, k + q = (keysTo S sc j).length ∧ i = .int .i64 q ∧ wr = w2.drewN m)
                case atStart => exact ⟨0, 0, rfl, rfl, rfl⟩
                case round =>
                  obtain ⟨q, m, hk, rfl, rfl⟩ := hrel
                  obtain ⟨g2, rfl, hg2, hc2⟩ := hs4.2 (by omega)
                  by_cases hlt : q < (keysTo S sc j).length
                  · obtain ⟨g1, rfl, hg1, hc1⟩ := hs3.2 (by omega)
                    have e1 := hc1 q (by omega)
                    have e2 := hc2 q (by omega)
                    rw [HL.out, getD_left _ _ _ hlt] at e1
                    rw [HL2.out, getD_left _ _ _ hlt] at e2
                    clear hc1 hc2 hs3 hs4
                    go_wp2
                    go_quiet (fail)
                    go_wp2
                    go_roundg (gk - 1)
                    case measure => omega
                    case rel => exact ⟨q + 1, _, by omega, by go_num, rfl⟩
                  · have e3 := hc2 (keysTo S sc j).length (by omega)
                    rw [HL2.out, show (keysTo S sc j ++ key :: keysTo (fun i => S (j + i)) sc (n - j)).getD (keysTo S sc j).length ByteArray.empty = key from by simp] at e3
                    go_wp2
                    clear e3
                    go_loopg [20] ((keysTo S sc n).length - (keysTo S sc j).length) (fun k i wr => ∃ q m : Nat, k + ((keysTo S sc j).length + q) = (keysTo S sc n).length ∧ i = .int .i64 ((keysTo S sc j).length + q : Nat) ∧ wr = w2.drewN m)
                    case atStart => exact ⟨0, _, by omega, rfl, rfl⟩
                    case round =>
                      obtain ⟨q, m, hk, rfl, rfl⟩ := hrel
                      by_cases hlt : (keysTo S sc j).length + q < (keysTo S sc n).length
                      · obtain ⟨g1, rfl, hg1, hc1⟩ := hs3.2 (by omega)
                        have e1 := hc1 ((keysTo S sc j).length + q) (by omega)
                        have e2 := hc2 ((keysTo S sc j).length + (q + 1)) (by omega)
                        rw [HL.out, getD_right] at e1
                        rw [HL2.out, getD_right, List.getD_cons_succ, ← Nat.add_assoc] at e2
                        clear hc1 hc2 hs3 hs4
                        go_wp2
                        go_quiet (fail)
                        go_wp2
                        go_roundg (gk - 1)
                        case measure => omega
                        case rel => exact ⟨q + 1, _, by omega, by go_num, rfl⟩
                      · go_wp2
                        go_ret
                        exact ⟨rfl, hbel.trans (below_drewN _)⟩
              · have ht' : (t.toList == sc.toList) = false := by simpa using ht
                rw [keysTo_ins_miss S sc j n t key (by omega) ht'] at hv2
                obtain ⟨b2, k2, rfl, hs4⟩ := hv2.told
                clear hv2
                go_wp2_with fail
                refine (countScope_any _ _ _ S _ n _ (by omega) (Nat.le_refl _) hq5).mono ?_
                rintro e w4 ⟨rfl, rfl⟩
                go_wp2_with fail
                refine (sameStrings_any _ _ _ _ (keysTo S sc n) _ (by omega) hs4 hs3).mono ?_
                rintro e w4 ⟨rfl, m, rfl⟩
                go_wp2
                go_ret
                exact ⟨rfl, hbel.trans (below_drewN _)⟩
  · go_ret; first | exact ⟨rfl, Below.refl _ _⟩ | exact ⟨rfl, below_drewN _⟩
  · go_ret; first | exact ⟨rfl, Below.refl _ _⟩ | exact ⟨rfl, below_drewN _⟩
  · go_ret; first | exact ⟨rfl, Below.refl _ _⟩ | exact ⟨rfl, below_drewN _⟩
  · go_ret; first | exact ⟨rfl, Below.refl _ _⟩ | exact ⟨rfl, below_drewN _⟩
end Go.Proofs.Qxb6608989a
