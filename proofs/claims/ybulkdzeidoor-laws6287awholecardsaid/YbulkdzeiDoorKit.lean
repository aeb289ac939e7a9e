/-
  SMALL LAWS: 'make([]T, n)' with the block written out; a whole copy of a row of elements of whatever size.
-/
import Derived.WalkKit
import Derived.Laws.CopyOwn
namespace Go.Proofs.YbulkdzeiDoor
open Go Go.RowKit

/-- 'make([]T, n)': the block is known whole; the world is a letter. -/
theorem wpList_make_block {P : Program} (w : World) {ops : Array Oper} {rest : List Oper} {o : Oper} {a : Act} {Q : Exit → Act → World → Prop}
    (hg : o.guard = none) (l c : Operand) (t : TypeId) (hop : o.op = Op.makeSlice t l c)
    (e : TypeId) (i : TypeInfo) (z : Value) (size : Nat) (h1 : P.underlying t = some (.slice e)) (h2 : P.info? e = some i) (h3 : i.zero = some z) (h4 : i.size = size)
    (n m : Nat) (hl : a.eval l = .int .i64 (n : Int)) (hc : a.eval c = .int .i64 (m : Int)) (hnm : n ≤ m) (b2 : i.bytes * m ≤ 281474976710656) (b3 : m ≤ maxLen)
    (hK : ∀ w', w'.heap[w.heap.size]? = some (.cells (madeCells z.cells (m * size)) e (0, 0)) → Below w.heap.size w w' → w'.heap.size = w.heap.size + 1 → wpList P ops Q rest (a.put o.dst (.slice (some ⟨w.heap.size, 0, none⟩) n m)) w') :
    wpList P ops Q (o :: rest) a w := by
  subst h4
  refine wpList_plain hg fun K hK' => ?_
  have hb : (i.bytes : Int) * (m : Int) ≤ 281474976710656 := by
    have h : ((i.bytes * m : Nat) : Int) ≤ 281474976710656 := by omega
    rwa [Int.natCast_mul] at h
  have hrun := run_make (P := P) w t e i z h1 h2 h3 .i64 .i64 (n : Int) (m : Int) (by omega) (by omega) hb (by unfold maxLen at b3; omega)
  simp only [Int.toNat_natCast] at hrun
  unfold Oper.wp
  simp [execOp, hop, hl, hc, hrun, Result.andThen]
  exact hK' _ _ (hK _ (heap_alloc_new w _) ((Below.refl _ _).alloc (Nat.le_refl _) _) (by simp))

/-- copy(dst, src) of two rows of n elements each, of whatever size: the whole of the second block goes into the first. -/
theorem run_copy_full {P : Program} (w : World) (dT sT ty elem : TypeId) (i : TypeInfo) (g s n c1 c2 : Nat) (cur cs : Array Value) (t : TypeId)
    (hu : P.underlying dT = some (.slice elem)) (hi : P.info? elem = some i)
    (hg : w.heap[g]? = some (.cells cur t (0, 0))) (hs : w.heap[s]? = some (.cells cs t (0, 0))) (h1 : cur.size = n * i.size) (h2 : cs.size = n * i.size) (ho : ∀ v ∈ cs.toList, v.oneCell' = true) :
    (Builtin.copy_ #[dT, sT] ty #[.slice (some ⟨g, 0, none⟩) n c1, .slice (some ⟨s, 0, none⟩) n c2]).run P w = .ok (goInt n) (w.setRow g cs) := by
  have hl := run_firstCells_some (P := P) w i.size n ⟨s, 0, none⟩ n c2 cs.toList (by simpa using h2) (by
    intro j v hv
    have hadd : (⟨s, 0, none⟩ : Addr).add j = ⟨s, j, none⟩ := by unfold Addr.add; split <;> simp_all
    rw [hadd, cell_of_row w s j cs t (0, 0) hs]
    simpa using hv)
  have hst := run_storeCells_at P g 0 t cs.toList 0 cur w hg (by simp; omega) ho
  have e : (List.take 0 cur.toList ++ cs.toList ++ List.drop (0 + cs.toList.length) cur.toList).toArray = cs := by
    apply Array.toList_inj.1
    simp
    omega
  simp only [Nat.add_zero] at hst
  rw [e] at hst
  simp [Builtin.copy_, run_underlying hu, Builtin.lenOf, sizeOf, typeInfo, hi, hl, hst]

/-- .. and what becomes of the world, a letter. -/
theorem copy_full {P : Program} (w : World) (dT sT ty elem : TypeId) (i : TypeInfo) (g s n c1 c2 : Nat) (cur cs : Array Value) (t : TypeId)
    (hu : P.underlying dT = some (.slice elem)) (hi : P.info? elem = some i)
    (hg : w.heap[g]? = some (.cells cur t (0, 0))) (hs : w.heap[s]? = some (.cells cs t (0, 0))) (h1 : cur.size = n * i.size) (h2 : cs.size = n * i.size) (ho : ∀ v ∈ cs.toList, v.oneCell' = true) :
    ∃ w', (Builtin.copy_ #[dT, sT] ty #[.slice (some ⟨g, 0, none⟩) n c1, .slice (some ⟨s, 0, none⟩) n c2]).run P w = .ok (goInt n) w' ∧ w'.heap[g]? = some (.cells cs t (0, 0)) ∧
      (∀ k, k ≠ g → w'.heap[k]? = w.heap[k]?) ∧ w'.heap.size = w.heap.size ∧ ∀ B, B ≤ g → Below B w w' :=
  ⟨_, run_copy_full w dT sT ty elem i g s n c1 c2 cur cs t hu hi hg hs h1 h2 ho, setRow_heap w g cur cs t _ hg, fun k hk => setRow_other w g k cs hk, by simp [World.setRow], fun _ hB => below_setRow (Below.refl _ _) hB cs⟩
end Go.Proofs.YbulkdzeiDoor
