/- ZZeachHolder. -/
import Derived.Test.Qxb6614451aW11
namespace Go.Proofs.Qxb6614451a
open Go.RowKit

set_option maxRecDepth 8000 in
theorem zzeachHolder (w : World) (g bp bf bm bL n nl m h : Nat) (T : Nat → Int) (fr pu re : Bool) (ho hoT : Int) (f : Nat → Nat → Int) (seq : Nat → Int) (s : St)
    (q : G5 w g bp bf bm bL n nl h T fr pu re ho hoT (headOf seq 0 s) (real f seq 0 s) s.spare) (hc : Chain f n nl m seq) (hs : StOk f m seq 0 s) (hkp : s.kept = false) (hho : hoT ≠ 0 → 0 ≤ ho ∧ ho < n) (hsz : n ≤ 65536 ∧ nl ≤ 65536 ∧ m ≤ nl) (hnw : s.nw = 0) :
    Calls Try.prog 20 #[.pointer (some ⟨g, 0, none⟩), .int .i32 h] w fun e w' => ∃ v, e = .returned v ∧ Got w' w.heap.size (w.heap.size + 1) (runs T f seq (st2 T ho hoT (st1 T h fr pu re s)) m).nw (runs T f seq (st2 T ho hoT (st1 T h fr pu re s)) m).wf v ∧
      G5 w' g bp bf bm bL n nl h T fr pu re ho hoT (headOf seq m (runs T f seq (st2 T ho hoT (st1 T h fr pu re s)) m)) (real f seq m (runs T f seq (st2 T ho hoT (st1 T h fr pu re s)) m)) (runs T f seq (st2 T ho hoT (st1 T h fr pu re s)) m).spare ∧ Fr5 w w' g bm bL w.heap.size := by
  have HM : Hid (Mid (w.alloc (.cells #[.slice none 0 0] 26)) (w.alloc (.cells #[.slice none 0 0] 26)) g bp bf bm bL n nl h T fr pu re ho hoT f seq w.heap.size 0 s) :=
    ⟨q.later ((Below.refl _ _).alloc (Nat.le_refl _) _), ⟨.slice none 0 0, heap_alloc_new w _, ⟨[], by rw [hnw]; exact World.ownsRow_nil _ _ _ _, fun k hk => by omega⟩, by omega, by simp⟩, Fr5.refl _ _ _ _ _, q.lts⟩
  have hlt := q.lts
  clear q
  go_enter Try.func20, Try.ntmps20
  go_wp2_with fail
  refine (eachHolder5 _ g bp bf bm bL n nl m h T fr pu re ho hoT f seq w.heap.size s HM hc hs hkp hho hsz hnw).mono ?_
  rintro e w1 ⟨rfl, hM⟩
  obtain ⟨v, hv⟩ := hM.got
  have c0 : w1.cell? ⟨w.heap.size, 0, none⟩ = some v := cellC hv.head 0
  have HV : Hid _ := hv
  have HM1 : Hid _ := hM
  clear hv hM HM
  go_wp2
  go_ret
  refine ⟨v, rfl, HV.out, HM1.out.gr, ?_⟩
  have hf := HM1.out.fra
  exact ⟨hf.os, hf.tape, hf.output, by have := hf.size; simp at this; omega, fun b h1 h2 h3 h4 => (hf.block b h1 h2 h3 h4).trans (heap_alloc_old _ _ h1)⟩
end Go.Proofs.Qxb6614451a
