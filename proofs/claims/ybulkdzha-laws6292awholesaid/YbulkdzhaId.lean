/-
  IDENTIFIERS ([20]byte) IN A WALK: read, stored and compared whole: rules over functions of the world ('row20', 'has20', 'put20').
-/
import Derived.Test.YbulkdzhaRows
import Derived.Test.YbulkdzhaKit
import Derived.Deep.MidRow
import Derived.Deep.WholeRow
import Derived.ChangeKeysEq
namespace Go.Proofs.Ybulkdzha
open Go Go.RowKit

/-- An identifier's cells: twenty bytes. -/
def IsId (c : Array Value) : Prop := c.size = 20 ∧ ∀ v ∈ c.toList, ∃ b : Int, 0 ≤ b ∧ b ≤ 255 ∧ v = .int .u8 b

theorem IsId.at {c : Array Value} (h : IsId c) {k : Nat} (hk : k < 20) : ∃ b : Int, 0 ≤ b ∧ b ≤ 255 ∧ c[k]? = some (.int .u8 b) := by
  have hs : k < c.size := by rw [h.1]; exact hk
  obtain ⟨b, h0, h1, hv⟩ := h.2 c[k] (by simp)
  exact ⟨b, h0, h1, by rw [Array.getElem?_eq_getElem hs, hv]⟩
theorem IsId.one {c : Array Value} (h : IsId c) : c.all (·.oneCell') = true :=
  Array.all_eq_true_iff_forall_mem.2 (fun v hv => by obtain ⟨b, _, _, rfl⟩ := h.2 v (by simpa using hv); rfl)

/-! ### Equality -/
def sameB (c d : Array Value) : Bool := (List.range 20).all fun i => intOf (c.getD i undef) == intOf (d.getD i undef)

theorem sameB_self (c : Array Value) : sameB c c = true := by simp [sameB]

theorem info5 : (Yba.prog.info? 5).map (·.size) = some 1 := by kernel_rfl
theorem info25 : (Yba.prog.info? 30).map (·.size) = some 20 := by kernel_rfl
theorem cells5 : Yba.prog.cellsOf 5 = 1 := by kernel_rfl

theorem run_part5 (c : Array Value) (hc : IsId c) (i : Nat) (hi : i < 20) (w : World) : (part 5 c (i * 1)).run Yba.prog w = .ok (.int .u8 (intOf (c.getD i undef))) w := by
  obtain ⟨b, _, _, hb⟩ := hc.at hi
  have e : c.getD i undef = .int .u8 b := by simp [hb]
  have ha := Yba.isAgg5
  simp [part, Nat.mul_one, ha, hb, intOf]

theorem run_items (d : Nat) (c e : Array Value) (hc : IsId c) (he : IsId e) (w : World) : ∀ is : List Nat, (∀ i ∈ is, i < 20) →
    (Op.eqItems (d + 1) 5 1 c e is).run Yba.prog w = .ok (is.all fun i => intOf (c.getD i undef) == intOf (e.getD i undef)) w
  | [], _ => by simp [Op.eqItems]
  | i :: is, h => by
    have hi := h i (by simp)
    have ih := run_items d c e hc he w is (fun j hj => h j (by simp [hj]))
    simp only [Op.eqItems, Sem.run_bind, run_part5 c hc i hi, run_part5 e he i hi, Result.andThen_ok, run_equalIn_int w d 5 .u8 .u8 _ _ Yba.underlying5]
    cases hb : (intOf (c.getD i undef) == intOf (e.getD i undef))
    · rw [List.all_cons, hb]; simp
    · rw [List.all_cons, hb]; simpa using ih

theorem run_eq25 (c d : Array Value) (hc : IsId c) (hd : IsId d) (w : World) : (Op.equalIn 10000 30 (.agg c) (.agg d)).run Yba.prog w = .ok (sameB c d) w := by
  cases hq : Yba.prog.info? 5 with
  | none => have := info5; rw [hq] at this; simp at this
  | some i =>
    rw [show (10000 : Nat) = 9999 + 1 from rfl, run_equalIn_array w 9999 c d Yba.underlying30 hq, cells5]
    exact run_items 9998 c d hc hd w _ (fun i hi => List.mem_range.1 hi)

theorem guard25 (op : BinOp) (x y : Operand) (c d : Array Value) (w : World) : (eqGuard op 30 x y (.agg c) (.agg d)).run Yba.prog w = .ok () w := by
  have h : Yba.prog.eqGuardType Yba.prog.depth 30 = false := by kernel_rfl
  cases op <;> simp [eqGuard, h]

/-! ### A row of twenty cells in memory -/
def blk (w : World) (b : Nat) : Array Value := match w.heap[b]? with | some (.cells c _ _) => c | _ => #[]
/-- Twenty cells of the block are there from offset o on. -/
def has20 (w : World) (b o : Nat) : Prop := o + 20 ≤ (blk w b).size
/-- .. and may be written. -/
def soft (w : World) (b : Nat) : Prop := ∃ c t, w.heap[b]? = some (.cells c t (0, 0))
def row20 (w : World) (b o : Nat) : Array Value := (blk w b).extract o (o + 20)
def put20 (w : World) (b o : Nat) (c : Array Value) : World := w.setCells b o c.toList

theorem blk_of {w : World} {b : Nat} {c : Array Value} {t : TypeId} {fr : Nat × Nat} (h : w.heap[b]? = some (.cells c t fr)) : blk w b = c := by simp [blk, h]
theorem blk_some {w : World} {b : Nat} (h : 0 < (blk w b).size) : ∃ t fr, w.heap[b]? = some (.cells (blk w b) t fr) := by
  unfold blk at h ⊢
  split at h
  · rename_i c t fr hh; exact ⟨t, fr, by rw [hh]⟩
  · simp at h
theorem has20.lt {w : World} {b o : Nat} (h : has20 w b o) : b < w.heap.size := by
  unfold has20 at h
  obtain ⟨t, fr, hh⟩ := blk_some (w := w) (b := b) (by omega)
  exact lt_of_heap hh

/-- The walk's rules meet a load and a store of an identifier under a name of their own: else they are opened cell by cell. -/
def ld25 (v : Value) : Sem Value := Instr.loadAt 30 v
def st25 (v c : Value) : Sem Unit := Instr.storeAt 30 v c
theorem loadAt25 (v : Value) : Instr.loadAt 30 v = ld25 v := rfl
theorem storeAt25 (v c : Value) : Instr.storeAt 30 v c = st25 v c := rfl
theorem run_load25 (w : World) (b o : Nat) (h : has20 w b o) : (ld25 (.pointer (some ⟨b, o, none⟩))).run Yba.prog w = .ok (.agg (row20 w b o)) w := by
  have h' := h
  unfold has20 at h'
  obtain ⟨t, fr, hh⟩ := blk_some (w := w) (b := b) (by omega)
  have hr := World.rangeAt_of_block hh o 20
  have hl : (row20 w b o).toList.length = 20 := by simp [row20]; omega
  have := run_loadAt_mid (P := Yba.prog) w b o 30 (row20 w b o).toList _ hr Yba.underlying30 rfl (by rw [hl]; exact info25)
  simpa [ld25] using this

theorem run_store25 (w : World) (b o : Nat) (c : Array Value) (hc : IsId c) (h : has20 w b o) (hs : soft w b) : (st25 (.pointer (some ⟨b, o, none⟩)) (.agg c)).run Yba.prog w = .ok () (put20 w b o c) := by
  obtain ⟨cur, t, hh⟩ := hs
  have hsz : o + 20 ≤ cur.size := by unfold has20 at h; rw [blk_of hh] at h; exact h
  refine run_storeAt_mid w b o 30 c ?_ (by rw [hc.1]; exact info25) hc.one
  intro j hj
  rw [hc.1] at hj
  refine ⟨?_, frozen_heap hh⟩
  rw [cell_heap hh (Array.getElem?_eq_getElem (show o + j < cur.size by omega))]
  rfl

/-! ### How the words stand to the world's steps -/
theorem blk_alloc_old (w : World) (b : Nat) (x : Obj) (h : b < w.heap.size) : blk (w.alloc x) b = blk w b := by
  unfold blk; rw [Below.heap_alloc _ _ _ h]
theorem blk_alloc_new (w : World) (c : Array Value) (t : TypeId) : blk (w.alloc (.cells c t)) w.heap.size = c := blk_of (heap_alloc_new w _)
theorem blk_drew (w : World) (b : Nat) : blk w.drew b = blk w b := rfl
theorem blk_drewN (w : World) (b n : Nat) : blk (w.drewN n) b = blk w b := rfl
theorem has20_drew (w : World) (b o : Nat) : has20 w.drew b o ↔ has20 w b o := Iff.rfl
theorem has20_drewN (w : World) (b o n : Nat) : has20 (w.drewN n) b o ↔ has20 w b o := Iff.rfl
theorem row20_drew (w : World) (b o : Nat) : row20 w.drew b o = row20 w b o := rfl
theorem row20_drewN (w : World) (b o n : Nat) : row20 (w.drewN n) b o = row20 w b o := rfl
theorem soft_drew (w : World) (b : Nat) : soft w.drew b ↔ soft w b := Iff.rfl
theorem soft_drewN (w : World) (b n : Nat) : soft (w.drewN n) b ↔ soft w b := Iff.rfl
theorem has20_alloc (w : World) (b o : Nat) (x : Obj) (h : has20 w b o) : has20 (w.alloc x) b o := by
  unfold has20; rw [blk_alloc_old _ _ _ h.lt]; exact h
theorem row20_alloc (w : World) (b o : Nat) (x : Obj) (h : has20 w b o) : row20 (w.alloc x) b o = row20 w b o := by
  unfold row20; rw [blk_alloc_old _ _ _ h.lt]
theorem has20_new (w : World) (c : Array Value) (t : TypeId) (h : c.size = 20) : has20 (w.alloc (.cells c t)) w.heap.size 0 := by
  unfold has20; rw [blk_alloc_new]; omega
theorem row20_new (w : World) (c : Array Value) (t : TypeId) (h : c.size = 20) : row20 (w.alloc (.cells c t)) w.heap.size 0 = c := by
  unfold row20; rw [blk_alloc_new]
  simp [← h]
theorem soft_alloc (w : World) (b : Nat) (x : Obj) (h : soft w b) : soft (w.alloc x) b := by
  obtain ⟨c, t, hh⟩ := h; exact ⟨c, t, heap_old hh x⟩
theorem soft_new (w : World) (c : Array Value) (t : TypeId) : soft (w.alloc (.cells c t)) w.heap.size := ⟨c, t, heap_alloc_new w _⟩
theorem setCells_heap {b : Nat} : ∀ (vs : List Value) (o : Nat) {w : World} {cur : Array Value} {t : TypeId}, w.heap[b]? = some (.cells cur t (0, 0)) → o + vs.length ≤ cur.size →
    ∃ cur', (w.setCells b o vs).heap[b]? = some (.cells cur' t (0, 0)) ∧ cur'.size = cur.size ∧ ∀ j, cur'[j]? = if o ≤ j ∧ j < o + vs.length then vs[j - o]? else cur[j]?
  | [], o, w, cur, t, h, _ => ⟨cur, h, rfl, fun j => by rw [if_neg (fun h => by simp at h; omega)]⟩
  | v :: r, o, w, cur, t, h, hl => by
    simp only [List.length_cons] at hl
    obtain ⟨cur', h1, h2, h3⟩ := setCells_heap r (o + 1) (heap_setCell_same (o := o) h v) (by simp; omega)
    refine ⟨cur', by rw [World.setCells]; exact h1, by rw [h2]; simp, fun j => ?_⟩
    rw [h3 j, Array.getElem?_setIfInBounds]
    simp only [List.length_cons]
    by_cases hj : o = j
    · subst hj
      rw [if_neg (by omega), if_pos rfl, if_pos (by omega), if_pos (by omega)]
      simp
    · by_cases hj2 : o + 1 ≤ j ∧ j < o + 1 + r.length
      · rw [if_pos hj2, if_pos (by omega), show j - o = (j - (o + 1)) + 1 by omega]
        simp
      · rw [if_neg hj2, if_neg hj, if_neg (by omega)]
theorem put20_new (w : World) (z c : Array Value) (hz : z.size = 20) (hc : IsId c) : put20 (w.alloc (.cells z 30)) w.heap.size 0 c = w.alloc (.cells c 30) := by
  have h1 := run_store25 (w.alloc (.cells z 30)) w.heap.size 0 c hc (has20_new w z 30 hz) (soft_new w z 30)
  have h2 := run_storeAt_new (P := Yba.prog) w 30 z c (by rw [hc.1]; exact info25) (by rw [hz, hc.1]) hc.one
  rw [storeAt25, h1] at h2
  simpa using h2
theorem put20_drew (w : World) (b o : Nat) (c : Array Value) : put20 w.drew b o c = (put20 w b o c).drew := by
  have : ∀ (l : List Value) (o : Nat) (w : World), w.drew.setCells b o l = (w.setCells b o l).drew := by
    intro l
    induction l with
    | nil => intro o w; rfl
    | cons v r ih => intro o w; rw [World.setCells, World.setCells, ← ih]; rfl
  exact this _ _ _
theorem put20_heap {w : World} {b o : Nat} {cur c : Array Value} {t : TypeId} (h : w.heap[b]? = some (.cells cur t (0, 0))) (hc : c.size = 20) (hl : o + 20 ≤ cur.size) :
    ∃ cur', (put20 w b o c).heap[b]? = some (.cells cur' t (0, 0)) ∧ cur'.size = cur.size ∧ ∀ j, cur'[j]? = if o ≤ j ∧ j < o + 20 then c[j - o]? else cur[j]? := by
  have := setCells_heap (b := b) c.toList o h (by simp [hc]; exact hl)
  simpa [hc, put20] using this
theorem setCells_other (b : Nat) : ∀ (l : List Value) (o : Nat) (w : World) (k : Nat), k ≠ b → (w.setCells b o l).heap[k]? = w.heap[k]?
  | [], _, _, _, _ => rfl
  | v :: r, o, w, k, h => by rw [World.setCells, setCells_other b r _ _ k h, Below.heap_setCell _ _ _ _ h]
theorem setCells_size (b : Nat) : ∀ (l : List Value) (o : Nat) (w : World), (w.setCells b o l).heap.size = w.heap.size
  | [], _, _ => rfl
  | v :: r, o, w => by rw [World.setCells, setCells_size b r]; simp [World.setCell]
theorem below_setCells {B : Nat} {a : World} (b : Nat) (hb : B ≤ b) : ∀ (l : List Value) (o : Nat) (w : World), Below B a w → Below B a (w.setCells b o l)
  | [], _, _, h => h
  | v :: r, o, w, h => by rw [World.setCells]; exact below_setCells b hb r _ _ (h.setCell hb v)
theorem put20_other (w : World) (b o : Nat) (c : Array Value) (k : Nat) (h : k ≠ b) : (put20 w b o c).heap[k]? = w.heap[k]? := setCells_other b _ _ _ k h
theorem put20_size (w : World) (b o : Nat) (c : Array Value) : (put20 w b o c).heap.size = w.heap.size := setCells_size b _ _ _
theorem below_put20 {B : Nat} {a w : World} (h : Below B a w) {b : Nat} (hb : B ≤ b) (o : Nat) (c : Array Value) : Below B a (put20 w b o c) := below_setCells b hb _ _ _ h

/-! ### Rows of identifiers -/
/-- The block holds n identifiers. -/
def Ids (arr : Array Value) (n : Nat) : Prop := n * 20 ≤ arr.size ∧ ∀ k, k < n → IsId (arr.extract (k * 20) (k * 20 + 20))

theorem has20_of {w : World} {b k n : Nat} {arr : Array Value} {t : TypeId} {fr : Nat × Nat} (h : w.heap[b]? = some (.cells arr t fr)) (hA : Ids arr n) (hk : k < n) : has20 w b (k * 20) := by
  unfold has20; rw [blk_of h]; have := hA.1; omega
theorem row20_of {w : World} {b o : Nat} {arr : Array Value} {t : TypeId} {fr : Nat × Nat} (h : w.heap[b]? = some (.cells arr t fr)) : row20 w b o = arr.extract o (o + 20) := by
  unfold row20; rw [blk_of h]
theorem soft_of {w : World} {b : Nat} {arr : Array Value} {t : TypeId} (h : w.heap[b]? = some (.cells arr t (0, 0))) : soft w b := ⟨arr, t, h⟩
theorem isId_congr {c d : Array Value} (h : IsId c) (e : ∀ j, j < 20 → d[j]? = c[j]?) (hd : d.size = 20) : IsId d := by
  refine ⟨hd, fun v hv => ?_⟩
  obtain ⟨j, hj, rfl⟩ := List.getElem_of_mem hv
  have hj' : j < 20 := by simpa [hd] using hj
  obtain ⟨b, h0, h1, hb⟩ := h.at hj'
  refine ⟨b, h0, h1, ?_⟩
  have := e j hj'
  rw [hb, Array.getElem?_eq_getElem (by omega)] at this
  simpa using this
theorem IsId.ext {c d : Array Value} (hc : c.size = 20) (hd : d.size = 20) (e : ∀ j, j < 20 → d[j]? = c[j]?) : d = c := by
  apply Array.ext_getElem?
  intro j
  by_cases hj : j < 20
  · exact e j hj
  · rw [Array.getElem?_eq_none (by omega), Array.getElem?_eq_none (by omega)]
/-- What a store of one identifier makes of a row of them. -/
theorem ids_put {cur cur' c : Array Value} {n k : Nat} (hI : Ids cur n) (hc : IsId c) (hk : k < n) (hs : cur'.size = cur.size)
    (h : ∀ j, cur'[j]? = if k * 20 ≤ j ∧ j < k * 20 + 20 then c[j - k * 20]? else cur[j]?) : Ids cur' n := by
  have hn := hI.1
  refine ⟨by omega, fun i hi => ?_⟩
  by_cases hik : i = k
  · subst hik
    refine isId_congr hc (fun j hj => ?_) (by simp; omega)
    rw [Array.getElem?_extract, if_pos (by omega), h, if_pos (by omega), show i * 20 + j - i * 20 = j by omega]
  · refine isId_congr (hI.2 i hi) (fun j hj => ?_) (by simp; omega)
    rw [Array.getElem?_extract, Array.getElem?_extract, if_pos (by omega), if_pos (by omega), h, if_neg (by omega)]
end Go.Proofs.Ybulkdzha
