/-
  ADDRESSES (nine cells) READ, STORED AND COMPARED WHOLE.
-/
import Derived.Test.YbulkdzgmMid
import Derived.Deep.MidRow
import Derived.Deep.WholeRow
namespace Go.Proofs.Ybulkdzgm
open Go Go.RowKit

def blk (w : World) (b : Nat) : Array Value := match w.heap[b]? with | some (.cells c _ _) => c | _ => #[]
theorem blk_of {w : World} {b : Nat} {c : Array Value} {t : TypeId} {fr : Nat × Nat} (h : w.heap[b]? = some (.cells c t fr)) : blk w b = c := by simp [blk, h]
theorem blk_some {w : World} {b : Nat} (h : 0 < (blk w b).size) : ∃ t fr, w.heap[b]? = some (.cells (blk w b) t fr) := by
  unfold blk at h ⊢
  split at h
  · rename_i c t fr hh; exact ⟨t, fr, by rw [hh]⟩
  · simp at h
def has9 (w : World) (b o : Nat) : Prop := o + 9 ≤ (blk w b).size
def row9 (w : World) (b o : Nat) : Array Value := (blk w b).extract o (o + 9)
def put9 (w : World) (b o : Nat) (c : Array Value) : World := w.setCells b o c.toList
def soft (w : World) (b : Nat) : Prop := ∃ c t, w.heap[b]? = some (.cells c t (0, 0))
theorem info49s : (Yba.prog.info? 49).map (·.size) = some 9 := by kernel_rfl
def ld49 (v : Value) : Sem Value := Instr.loadAt 49 v
def st49 (v c : Value) : Sem Unit := Instr.storeAt 49 v c
theorem loadAt49 (v : Value) : Instr.loadAt 49 v = ld49 v := rfl
theorem storeAt49 (v c : Value) : Instr.storeAt 49 v c = st49 v c := rfl
theorem run_load49 (w : World) (b o : Nat) (h : has9 w b o) : (ld49 (.pointer (some ⟨b, o, none⟩))).run Yba.prog w = .ok (.agg (row9 w b o)) w := by
  have h' := h
  unfold has9 at h'
  obtain ⟨t, fr, hh⟩ := blk_some (w := w) (b := b) (by omega)
  have hr := World.rangeAt_of_block hh o 9
  have hl : (row9 w b o).toList.length = 9 := by simp [row9]; omega
  have := run_loadAt_mid (P := Yba.prog) w b o 49 (row9 w b o).toList _ hr Yba.underlying49 rfl (by rw [hl]; exact info49s)
  simpa [ld49] using this
theorem item_one (x : Item) (s : ByteArray) (i : Nat) (hs : x.st = .string s) : (x.cells i).all (·.oneCell') = true := by
  unfold Item.cells; rw [hs]; simp [Value.oneCell']
theorem run_store49 (w : World) (b o : Nat) (x : Item) (s : ByteArray) (i : Nat) (hs : x.st = .string s) (h : has9 w b o) (hsf : soft w b) : (st49 (.pointer (some ⟨b, o, none⟩)) (.agg (x.cells i))).run Yba.prog w = .ok () (put9 w b o (x.cells i)) := by
  obtain ⟨cur, t, hh⟩ := hsf
  have hsz : o + 9 ≤ cur.size := by unfold has9 at h; rw [blk_of hh] at h; exact h
  have h9 : (x.cells i).size = 9 := rfl
  refine run_storeAt_mid w b o 49 (x.cells i) ?_ (by rw [h9]; exact info49s) (item_one x s i hs)
  intro j hj
  rw [h9] at hj
  refine ⟨?_, frozen_heap hh⟩
  rw [cell_heap hh (Array.getElem?_eq_getElem (show o + j < cur.size by omega))]
  rfl
theorem guard49 (op : BinOp) (x y : Operand) (c d : Array Value) (w : World) : (eqGuard op 49 x y (.agg c) (.agg d)).run Yba.prog w = .ok () w := by
  have h : Yba.prog.eqGuardType Yba.prog.depth 49 = false := by kernel_rfl
  cases op <;> simp [eqGuard, h]
def eq49 (x y : Value) : Sem Bool := Op.equalIn 10000 49 x y
theorem equalIn49 (x y : Value) : Op.equalIn 10000 49 x y = eq49 x y := rfl
theorem run_eq49 (x : Item) (s : ByteArray) (i : Nat) (hs : x.st = .string s) (w : World) : (eq49 (.agg (x.cells i)) (.agg (x.cells i))).run Yba.prog w = .ok true w := by
  have hp : ∀ d : Nat, (Op.equalIn (d + 1) 43 (.pointer none) (.pointer none)).run Yba.prog w = .ok true w := fun d => by
    simp [Op.equalIn, run_underlying Yba.underlying43]
  have hp2 := hp 9997
  unfold eq49 Item.cells
  rw [hs, show (10000 : Nat) = 9997 + 1 + 1 + 1 from rfl]
  go_simp

theorem setCells_heap {b : Nat} : ∀ (vs : List Value) (o : Nat) {w : World} {cur : Array Value} {t : TypeId}, w.heap[b]? = some (.cells cur t (0, 0)) → o + vs.length ≤ cur.size →
    ∃ cur', (w.setCells b o vs).heap[b]? = some (.cells cur' t (0, 0)) ∧ cur'.size = cur.size ∧ ∀ j, cur'[j]? = if o ≤ j ∧ j < o + vs.length then vs[j - o]? else cur[j]?
  | [], o, w, cur, t, h, _ => ⟨cur, h, rfl, fun j => by rw [if_neg (fun h => by simp at h; omega)]⟩
  | v :: r, o, w, cur, t, h, hl => by
    simp only [List.length_cons] at hl
    obtain ⟨cur', h1, h2, h3⟩ := setCells_heap r (o + 1) (heap_setCell_same (o := o) h v) (by simp; omega)
    refine ⟨cur', by rw [World.setCells]; exact h1, by rw [h2]; simp, fun j => ?_⟩
    rw [h3 j, Array.getElem?_setIfInBounds]
    simp only [List.length_cons]
    by_cases hj : o = j
    · subst hj
      rw [if_neg (by omega), if_pos rfl, if_pos (by omega), if_pos (by omega)]
      simp
    · by_cases hj2 : o + 1 ≤ j ∧ j < o + 1 + r.length
      · rw [if_pos hj2, if_pos (by omega), show j - o = (j - (o + 1)) + 1 by omega]
        simp
      · rw [if_neg hj2, if_neg hj, if_neg (by omega)]
theorem setCells_other (b : Nat) : ∀ (l : List Value) (o : Nat) (w : World) (k : Nat), k ≠ b → (w.setCells b o l).heap[k]? = w.heap[k]?
  | [], _, _, _, _ => rfl
  | v :: r, o, w, k, h => by rw [World.setCells, setCells_other b r _ _ k h, Below.heap_setCell _ _ _ _ h]
theorem setCells_size (b : Nat) : ∀ (l : List Value) (o : Nat) (w : World), (w.setCells b o l).heap.size = w.heap.size
  | [], _, _ => rfl
  | v :: r, o, w => by rw [World.setCells, setCells_size b r]; simp [World.setCell]
theorem below_setCells {B : Nat} {a : World} (b : Nat) (hb : B ≤ b) : ∀ (l : List Value) (o : Nat) (w : World), Below B a w → Below B a (w.setCells b o l)
  | [], _, _, h => h
  | v :: r, o, w, h => by rw [World.setCells]; exact below_setCells b hb r _ _ (h.setCell hb v)
theorem put9_heap {w : World} {b o : Nat} {cur c : Array Value} {t : TypeId} (h : w.heap[b]? = some (.cells cur t (0, 0))) (hc : c.size = 9) (hl : o + 9 ≤ cur.size) :
    ∃ cur', (put9 w b o c).heap[b]? = some (.cells cur' t (0, 0)) ∧ cur'.size = cur.size ∧ ∀ j, cur'[j]? = if o ≤ j ∧ j < o + 9 then c[j - o]? else cur[j]? := by
  have := setCells_heap (b := b) c.toList o h (by simp [hc]; exact hl)
  simpa [hc, put9] using this
theorem put9_other (w : World) (b o : Nat) (c : Array Value) (k : Nat) (h : k ≠ b) : (put9 w b o c).heap[k]? = w.heap[k]? := setCells_other b _ _ _ k h
theorem below_put9 {B : Nat} {a w : World} (h : Below B a w) {b : Nat} (hb : B ≤ b) (o : Nat) (c : Array Value) : Below B a (put9 w b o c) := below_setCells b hb _ _ _ h
theorem has9_drew (w : World) (b o : Nat) : has9 w.drew b o ↔ has9 w b o := Iff.rfl
theorem has9_drewN (w : World) (b o n : Nat) : has9 (w.drewN n) b o ↔ has9 w b o := Iff.rfl
theorem row9_drew (w : World) (b o : Nat) : row9 w.drew b o = row9 w b o := rfl
theorem row9_drewN (w : World) (b o n : Nat) : row9 (w.drewN n) b o = row9 w b o := rfl

/-- The copies of the first k addresses. -/
structure Copies (Vc : Array Value) (n k : Nat) (X : Nat → Item) : Prop where
  size : Vc.size = n * 9
  row : ∀ i, i < k → ∀ j, j < 9 → Vc[i * 9 + j]? = ((X i).cells i)[j]?
theorem Copies.put {Vc Wc : Array Value} {n k : Nat} {X : Nat → Item} (h : Copies Vc n k X) (hs : Wc.size = Vc.size) (hr : ∀ j, Wc[j]? = if k * 9 ≤ j ∧ j < k * 9 + 9 then ((X k).cells k)[j - k * 9]? else Vc[j]?) : Copies Wc n (k + 1) X := by
  refine ⟨hs.trans h.size, fun i hi j hj => ?_⟩
  rw [hr]
  by_cases hik : i = k
  · subst hik
    rw [if_pos (by omega), show i * 9 + j - i * 9 = j by omega]
  · rw [if_neg (by omega)]
    exact h.row i (by omega) j hj
theorem Copies.at {w : World} {b n k i : Nat} {Vc : Array Value} {X : Nat → Item} {t : TypeId} (h : Copies Vc n k X) (hw : w.heap[b]? = some (.cells Vc t (0, 0))) (hi : i < k) (hk : k ≤ n) : has9 w b (i * 9) ∧ row9 w b (i * 9) = (X i).cells i := by
  have hs := h.size
  refine ⟨by unfold has9; rw [blk_of hw]; omega, ?_⟩
  unfold row9
  rw [blk_of hw]
  have h9 : ((X i).cells i).size = 9 := rfl
  apply Array.ext_getElem?
  intro j
  by_cases hj : j < 9
  · rw [Array.getElem?_extract, if_pos (by omega)]
    exact h.row i hi j hj
  · rw [Array.getElem?_eq_none (by simp; omega), Array.getElem?_eq_none (by omega)]
theorem item_at {w : World} {b i : Nat} {x : Item} {t : TypeId} (hw : w.heap[b]? = some (.cells (x.cells i) t (0, 0))) : has9 w b 0 ∧ row9 w b 0 = x.cells i := by
  have h9 : (x.cells i).size = 9 := rfl
  refine ⟨by unfold has9; rw [blk_of hw, h9]; omega, ?_⟩
  unfold row9
  rw [blk_of hw]
  simp [← h9]
end Go.Proofs.Ybulkdzgm
