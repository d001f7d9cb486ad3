/- Laws of this seat's own on make and copy, for elements of whatever size: over any program. -/
import Derived.WalkKit
import Derived.Laws.CopyRow
import Derived.Deep.Draws
namespace Go.Proofs.Qxb6609148a
open Go.RowKit

theorem setRow_new (w : World) (C cs : Array Value) (t : TypeId) (m : Nat) : ((w.alloc (.cells C t)).drewN m).setRow w.heap.size cs = (w.alloc (.cells cs t)).drewN m := by
  show World.mk _ _ _ _ _ = World.mk _ _ _ _ _
  congr 1
  show (w.heap.push (.cells C t)).modify w.heap.size _ = w.heap.push (.cells cs t)
  apply Array.ext
  · simp
  · intro k h1 h2
    simp only [Array.getElem_modify]
    by_cases hk : w.heap.size = k
    · subst hk; simp
    · have hk2 : k < w.heap.size := by simp at h2; omega
      simp [hk, Array.getElem_push_lt hk2]

theorem run_copy_new {P : Program} (w : World) (dT sT ty elem : TypeId) (size : Nat) (C : Array Value) (t : TypeId) (m n : Nat) (sp : Option Addr) (sCap : Nat) (cs : List Value)
    (hu : P.underlying dT = some (.slice elem)) (hsz : (P.info? elem).map (·.size) = some size) (hcs : cs.length = n * size) (hC : C.size = n * size)
    (hsrc : 0 < n → ∃ ad, sp = some ad ∧ ∀ j v, cs[j]? = some v → w.cell? (ad.add j) = some v ∧ ad.block < w.heap.size) (h1 : ∀ v ∈ cs, v.oneCell' = true) :
    (Builtin.copy_ #[dT, sT] ty #[.slice (some ⟨w.heap.size, 0, none⟩) n n, .slice sp n sCap]).run P ((w.alloc (.cells C t)).drewN m) = .ok (goInt n) ((w.alloc (.cells cs.toArray t)).drewN m) := by
  cases hq : P.info? elem with
  | none => simp [hq] at hsz
  | some i =>
    have hi : i.size = size := by simpa [hq] using hsz
    have hg : ((w.alloc (.cells C t)).drewN m).heap[w.heap.size]? = some (.cells C t (0, 0)) := heap_alloc_new w _
    have hst := run_storeCells_at P w.heap.size 0 t cs 0 C ((w.alloc (.cells C t)).drewN m) hg (by simp; omega) h1
    have hts : (C.toList.take (0 + 0) ++ cs ++ C.toList.drop (0 + 0 + cs.length)).toArray = cs.toArray := by
      have : C.toList.drop (0 + 0 + cs.length) = [] := List.drop_eq_nil_of_le (by simp; omega)
      rw [this]; simp
    rw [hts, setRow_new] at hst
    rcases Nat.eq_zero_or_pos n with h0 | hpos
    · subst h0
      have hc0 : cs = [] := List.eq_nil_of_length_eq_zero (by simpa using hcs)
      subst hc0
      have hl : ∀ (x : Addr), (loadCells x 0).run P ((w.alloc (.cells C t)).drewN m) = .ok #[] ((w.alloc (.cells C t)).drewN m) := fun x => by simpa using run_loadCells_list (P := P) _ x [] (by simp)
      cases sp <;> simp [Builtin.copy_, run_underlying hu, Builtin.lenOf, Builtin.firstCells, sizeOf, typeInfo, hq, hl, hst]
    · obtain ⟨ad, rfl, hsrc'⟩ := hsrc hpos
      have hl := run_loadCells_list (P := P) ((w.alloc (.cells C t)).drewN m) ad cs (fun j v hj => by
        obtain ⟨h2, h3⟩ := hsrc' j v hj
        rw [← h2]
        have e : (ad.add j).block = ad.block := by unfold Addr.add; split <;> rfl
        exact World.cell?_alloc_lt _ _ _ (by rw [e]; exact h3))
      rw [hcs] at hl
      simp [Builtin.copy_, run_underlying hu, Builtin.lenOf, Builtin.firstCells, sizeOf, typeInfo, hq, hi, hl, hst]

/-- 'copy(zzc, xs)' into the block that a make of the same length has just laid. -/
theorem wpList_copy_new {P : Program} {w0 : World} {ops : Array Oper} {rest : List Oper} {o : Oper} {a : Act} {Q : Exit → Act → World → Prop} (d s : Operand) (dT sT : TypeId)
    (ho : o.op = .call { callee := .builtin .copy, args := #[d, s], argTypes := #[dT, sT] }) (hgd : o.guard = none) (elem : TypeId) (size : Nat) (hu : P.underlying dT = some (.slice elem)) (hsz : (P.info? elem).map (·.size) = some size)
    (w : World) (C : Array Value) (t : TypeId) (m n : Nat) (hw0 : w0 = (w.alloc (.cells C t)).drewN m) (sp : Option Addr) (sCap : Nat) (hd : a.eval d = .slice (some ⟨w.heap.size, 0, none⟩) n n) (hs : a.eval s = .slice sp n sCap)
    (cs : List Value) (hcs : cs.length = n * size) (hC : C.size = n * size)
    (hsrc : 0 < n → ∃ ad, sp = some ad ∧ ∀ j v, cs[j]? = some v → w.cell? (ad.add j) = some v ∧ ad.block < w.heap.size) (h1 : ∀ v ∈ cs, v.oneCell' = true)
    (h : wpList P ops Q rest (a.put o.dst (goInt n)) ((w.alloc (.cells cs.toArray t)).drewN m)) : wpList P ops Q (o :: rest) a w0 := by
  subst hw0
  refine wpList_plain hgd fun K hK => ?_
  have hrun := run_copy_new (P := P) w dT sT o.type elem size C t m n sp sCap cs hu hsz hcs hC hsrc h1
  unfold Oper.wp
  simp [execOp, ho, resolve, invoke, builtin, hd, hs, hrun, Result.andThen]
  exact hK _ _ h

/-- 'make([]T, n)' for whatever element type. -/
theorem make_any {P : Program} (t e : TypeId) (z : Value) (size bytes : Nat) (ht : P.underlying t = some (.slice e)) (hinfo : (P.info? e).map (fun i => (i.zero, i.size, i.bytes)) = some (some z, size, bytes))
    (kl kc : IntKind) (n : Nat) (hbytes : bytes * n ≤ 281474976710656) (h63 : n ≤ 9223372036854775807) (w : World) :
    (Instr.makeSlice t (.int kl (n : Int)) (.int kc (n : Int))).run P w = .ok (.slice (some ⟨w.heap.size, 0, none⟩) n n) (w.alloc (.cells (madeCells z.cells (n * size)) e)) := by
  obtain ⟨i, hi, hz, hs, hb⟩ := info_parts hinfo
  have hb' : (i.bytes : Int) * (n : Int) ≤ 281474976710656 := by
    have h : ((i.bytes * n : Nat) : Int) ≤ 281474976710656 := by rw [hb]; omega
    rwa [Int.natCast_mul] at h
  have hr := run_make (P := P) w t e i z ht hi hz kl kc n n (by omega) (Int.le_refl _) hb' (by omega)
  simp only [Int.toNat_natCast, hs] at hr
  exact hr

def RetBool (e : Ending) : Prop := ∃ r, e = .returned (.bool r)
theorem RetBool.mk (r : Bool) : RetBool (.returned (.bool r)) := ⟨r, rfl⟩

theorem below_drewN {B : Nat} {w : World} (m : Nat) : Below B w (w.drewN m) := by
  induction m with
  | zero => exact Below.refl _ _
  | succ m ih => exact ih.drew

theorem getC {w : World} {g : Nat} {C : Array Value} {t : TypeId} (h : w.heap[g]? = some (.cells C t (0, 0))) {k : Nat} (hk : k < C.size) : ∃ x, w.cell? ⟨g, k, none⟩ = some x := ⟨C[k], by simp [World.cell?, h, hk]⟩
theorem frzC {w : World} {g : Nat} {C : Array Value} {t : TypeId} (h : w.heap[g]? = some (.cells C t (0, 0))) (k : Nat) : w.frozen? ⟨g, k, none⟩ = false := by simp [World.frozen?, h]
theorem cellC {w : World} {g : Nat} {C : Array Value} {t : TypeId} (h : w.heap[g]? = some (.cells C t (0, 0))) (k : Nat) : w.cell? ⟨g, k, none⟩ = C[k]? := by simp [World.cell?, h]

end Go.Proofs.Qxb6609148a
