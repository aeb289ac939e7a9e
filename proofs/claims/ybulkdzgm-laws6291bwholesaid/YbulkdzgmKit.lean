/-
  SMALL LAWS: 'make([]T, n)' with the block written out; a whole copy of a row of elements of whatever size.
-/
import Derived.WalkKit
import Derived.Laws.CopyOwn
import Derived.Deep.Draws
namespace Go.Proofs.Ybulkdzgm
open Go Go.RowKit

/-- 'make([]T, n)': the block is known whole; the world is a letter. -/
theorem wpList_make_block {P : Program} (w : World) {ops : Array Oper} {rest : List Oper} {o : Oper} {a : Act} {Q : Exit → Act → World → Prop}
    (hg : o.guard = none) (l c : Operand) (t : TypeId) (hop : o.op = Op.makeSlice t l c)
    (e : TypeId) (i : TypeInfo) (z : Value) (size : Nat) (h1 : P.underlying t = some (.slice e)) (h2 : P.info? e = some i) (h3 : i.zero = some z) (h4 : i.size = size)
    (n m : Nat) (hl : a.eval l = .int .i64 (n : Int)) (hc : a.eval c = .int .i64 (m : Int)) (hnm : n ≤ m) (b2 : i.bytes * m ≤ 281474976710656) (b3 : m ≤ maxLen)
    (hK : ∀ w', w'.heap[w.heap.size]? = some (.cells (madeCells z.cells (m * size)) e (0, 0)) → Below w.heap.size w w' → w'.heap.size = w.heap.size + 1 → wpList P ops Q rest (a.put o.dst (.slice (some ⟨w.heap.size, 0, none⟩) n m)) w') :
    wpList P ops Q (o :: rest) a w := by
  subst h4
  refine wpList_plain hg fun K hK' => ?_
  have hb : (i.bytes : Int) * (m : Int) ≤ 281474976710656 := by
    have h : ((i.bytes * m : Nat) : Int) ≤ 281474976710656 := by omega
    rwa [Int.natCast_mul] at h
  have hrun := run_make (P := P) w t e i z h1 h2 h3 .i64 .i64 (n : Int) (m : Int) (by omega) (by omega) hb (by unfold maxLen at b3; omega)
  simp only [Int.toNat_natCast] at hrun
  unfold Oper.wp
  simp [execOp, hop, hl, hc, hrun, Result.andThen]
  exact hK' _ _ (hK _ (heap_alloc_new w _) ((Below.refl _ _).alloc (Nat.le_refl _) _) (by simp))

/-- copy(dst, src) of two rows of n elements each, of whatever size: the whole of the second block goes into the first. -/
theorem run_copy_full {P : Program} (w : World) (dT sT ty elem : TypeId) (i : TypeInfo) (g s n c1 c2 : Nat) (cur cs : Array Value) (t : TypeId)
    (hu : P.underlying dT = some (.slice elem)) (hi : P.info? elem = some i)
    (hg : w.heap[g]? = some (.cells cur t (0, 0))) (hs : w.heap[s]? = some (.cells cs t (0, 0))) (h1 : cur.size = n * i.size) (h2 : cs.size = n * i.size) (ho : ∀ v ∈ cs.toList, v.oneCell' = true) :
    (Builtin.copy_ #[dT, sT] ty #[.slice (some ⟨g, 0, none⟩) n c1, .slice (some ⟨s, 0, none⟩) n c2]).run P w = .ok (goInt n) (w.setRow g cs) := by
  have hl := run_firstCells_some (P := P) w i.size n ⟨s, 0, none⟩ n c2 cs.toList (by simpa using h2) (by
    intro j v hv
    have hadd : (⟨s, 0, none⟩ : Addr).add j = ⟨s, j, none⟩ := by unfold Addr.add; split <;> simp_all
    rw [hadd, cell_of_row w s j cs t (0, 0) hs]
    simpa using hv)
  have hst := run_storeCells_at P g 0 t cs.toList 0 cur w hg (by simp; omega) ho
  have e : (List.take 0 cur.toList ++ cs.toList ++ List.drop (0 + cs.toList.length) cur.toList).toArray = cs := by
    apply Array.toList_inj.1
    simp
    omega
  simp only [Nat.add_zero] at hst
  rw [e] at hst
  simp [Builtin.copy_, run_underlying hu, Builtin.lenOf, sizeOf, typeInfo, hi, hl, hst]

/-- .. and what becomes of the world, a letter. -/
theorem copy_full {P : Program} (w : World) (dT sT ty elem : TypeId) (i : TypeInfo) (g s n c1 c2 : Nat) (cur cs : Array Value) (t : TypeId)
    (hu : P.underlying dT = some (.slice elem)) (hi : P.info? elem = some i)
    (hg : w.heap[g]? = some (.cells cur t (0, 0))) (hs : w.heap[s]? = some (.cells cs t (0, 0))) (h1 : cur.size = n * i.size) (h2 : cs.size = n * i.size) (ho : ∀ v ∈ cs.toList, v.oneCell' = true) :
    ∃ w', (Builtin.copy_ #[dT, sT] ty #[.slice (some ⟨g, 0, none⟩) n c1, .slice (some ⟨s, 0, none⟩) n c2]).run P w = .ok (goInt n) w' ∧ w'.heap[g]? = some (.cells cs t (0, 0)) ∧
      (∀ k, k ≠ g → w'.heap[k]? = w.heap[k]?) ∧ w'.heap.size = w.heap.size ∧ ∀ B, B ≤ g → Below B w w' :=
  ⟨_, run_copy_full w dT sT ty elem i g s n c1 c2 cur cs t hu hi hg hs h1 h2 ho, setRow_heap w g cur cs t _ hg, fun k hk => setRow_other w g k cs hk, by simp [World.setRow], fun _ hB => below_setRow (Below.refl _ _) hB cs⟩

theorem Hid.mk {p : Prop} (h : p) : Hid p := h
theorem lt_of_cell? {w : World} {b o : Nat} {v : Value} (h : w.cell? ⟨b, o, none⟩ = some v) : b < w.heap.size := World.block_lt_of_cell? w _ h
theorem lt_of_heap {w : World} {b : Nat} {x : Obj} (h : w.heap[b]? = some x) : b < w.heap.size := (Array.getElem?_eq_some_iff.1 h).1
theorem cell_heap {w : World} {g o : Nat} {c : Array Value} {t : TypeId} {fr : Nat × Nat} {v : Value} (h : w.heap[g]? = some (.cells c t fr)) (hv : c[o]? = some v) : w.cell? ⟨g, o, none⟩ = some v := by
  simp [World.cell?, h, hv]
theorem frozen_heap {w : World} {g o : Nat} {c : Array Value} {t : TypeId} (h : w.heap[g]? = some (.cells c t (0, 0))) : w.frozen? ⟨g, o, none⟩ = false := by
  simp [World.frozen?, h]
theorem cell_below {w w' : World} {p : Addr} {v : Value} (hb : Below w.heap.size w w') (h : w.cell? p = some v) : w'.cell? p = some v := (hb.cell (World.block_lt_of_cell? w p h)).trans h
theorem heap_below {w w' : World} {b : Nat} {x : Obj} (hb : Below w.heap.size w w') (h : w.heap[b]? = some x) : w'.heap[b]? = some x := (hb.block b (lt_of_heap h)).trans h
theorem heap_setCell_same {w : World} {b o : Nat} {c : Array Value} {t : TypeId} {fr : Nat × Nat} (h : w.heap[b]? = some (.cells c t fr)) (v : Value) :
    (w.setCell ⟨b, o, none⟩ v).heap[b]? = some (.cells (c.setIfInBounds o v) t fr) := by
  simp [World.setCell, Array.getElem?_modify, h]
theorem heap_alloc2 (w : World) (o o' : Obj) : ((w.alloc o).alloc o').heap[w.heap.size + 1]? = some o' := by
  have h := heap_alloc_new (w.alloc o) o'
  rwa [show (w.alloc o).heap.size = w.heap.size + 1 by simp] at h
theorem heap_alloc1 (w : World) (o o' : Obj) : ((w.alloc o).alloc o').heap[w.heap.size]? = some o :=
  (Below.heap_alloc _ _ _ (by simp)).trans (heap_alloc_new _ _)
theorem heap_old {w : World} {b : Nat} {x : Obj} (h : w.heap[b]? = some x) (o : Obj) : (w.alloc o).heap[b]? = some x := (Below.heap_alloc _ _ _ (lt_of_heap h)).trans h
theorem alloc_drewN (w : World) (n : Nat) (o : Obj) : (w.drewN n).alloc o = (w.alloc o).drewN n := rfl
theorem setCell_drewN (w : World) (n : Nat) (a : Addr) (v : Value) : (w.drewN n).setCell a v = (w.setCell a v).drewN n := rfl

/-- 'append' WITHIN THE CAPACITY, onto a block that is known whole, of what lies in another block that is known whole: the world is a letter. -/
theorem wpList_append_block {P : Program} (w : World) {ops : Array Oper} {rest : List Oper} {o : Oper} {a : Act} {Q : Exit → Act → World → Prop}
    (hgd : o.guard = none) (s x : Operand) (t : TypeId) (hop : o.op = Op.call { callee := Callee.builtin Builtin.append, args := #[s, x], argTypes := #[t, t] })
    (e e' : TypeId) (i : TypeInfo) (size : Nat) (ht : P.underlying t = some (.slice e)) (hi : P.info? e = some i) (hsz : i.size = size)
    (g n cap : Nat) (cur : Array Value) (hs : a.eval s = .slice (some ⟨g, 0, none⟩) n cap) (hcur : w.heap[g]? = some (.cells cur e (0, 0)))
    (ad m c : Nat) (news : Array Value) (hx : a.eval x = .slice (some ⟨ad, 0, none⟩) m c) (hnew : w.heap[ad]? = some (.cells news e' (0, 0))) (hl : news.size = m * size) (h1 : ∀ v ∈ news.toList, v.oneCell' = true)
    (hroom : n + m ≤ cap) (hfit : (n + m) * size ≤ cur.size)
    (hK : ∀ w' cur', w'.heap[g]? = some (.cells cur' e (0, 0)) → cur'.size = cur.size → (∀ j, cur'[j]? = if n * size ≤ j ∧ j < (n + m) * size then news[j - n * size]? else cur[j]?) →
      (∀ k, k ≠ g → w'.heap[k]? = w.heap[k]?) → w'.heap.size = w.heap.size → (∀ B, B ≤ g → Below B w w') → wpList P ops Q rest (a.put o.dst (.slice (some ⟨g, 0, none⟩) (n + m) cap)) w') :
    wpList P ops Q (o :: rest) a w := by
  subst hsz
  have hfit' : n * i.size + m * i.size ≤ cur.size := by rw [← Nat.add_mul]; exact hfit
  refine wpList_plain hgd fun K hK' => ?_
  have hrun := run_append_room (P := P) w t o.type e i ht hi g n cap cur hcur ⟨ad, 0, none⟩ m c news.toList (by simpa using hl) (by
    intro j v hv
    have hadd : (⟨ad, 0, none⟩ : Addr).add j = ⟨ad, j, none⟩ := by unfold Addr.add; split <;> simp_all
    rw [hadd, cell_of_row w ad j news e' (0, 0) hnew]
    simpa using hv) h1 hroom (by simp [hl]; exact hfit')
  unfold Oper.wp
  simp [execOp, hop, hs, hx, resolve, invoke, builtin, hrun, Result.andThen]
  refine hK' _ _ (hK _ _ (setRow_heap w g cur _ e _ hcur) ?_ ?_ (fun k hk => setRow_other w g k _ hk) (by simp [World.setRow]) (fun B hB => below_setRow (Below.refl _ _) hB _))
  · simp [hl]; omega
  · intro j
    have hN : (n + m) * i.size = n * i.size + m * i.size := Nat.add_mul _ _ _
    rw [hN]
    simp only [List.getElem?_toArray]
    by_cases h2 : j < n * i.size
    · rw [List.getElem?_append_left (by simp; omega), List.getElem?_take, if_pos h2, if_neg (by omega)]
      simp
    · rw [List.getElem?_append_right (by simp; omega)]
      have e1 : (cur.toList.take (n * i.size)).length = n * i.size := by simp; omega
      rw [e1]
      by_cases h3 : j < n * i.size + m * i.size
      · rw [List.getElem?_append_left (by simp; omega), if_pos (by omega)]
        simp
      · rw [List.getElem?_append_right (by simp; omega), if_neg (by omega)]
        simp only [Array.length_toList, List.getElem?_drop, hl]
        rw [show n * i.size + m * i.size + (j - n * i.size - m * i.size) = j by omega]
        simp
end Go.Proofs.Ybulkdzgm
