/-
  [64]time.Duration IN A WALK: read, stored and compared whole; the batch built out of it.
-/
import Derived.Test.YbulkdzhoFlush
import Derived.Deep.MidRow
import Derived.Deep.WholeRow
import Derived.ChangeKeysEq
import Derived.Laws.Tables
import Derived.Great.FillDense
namespace Go.Proofs.Ybulkdzho
open Go Go.RowKit

/-- Sixty-four durations, none negative. -/
def Ds (c : Array Value) (D : Nat → Nat) : Prop := c.size = 64 ∧ ∀ i, i < 64 → c[i]? = some (.int .i64 (D i))
theorem Ds.one {c : Array Value} {D : Nat → Nat} (h : Ds c D) : c.all (·.oneCell') = true := by
  rw [Array.all_eq_true_iff_forall_mem]
  intro v hv
  obtain ⟨i, hi, rfl⟩ := Array.mem_iff_getElem.1 hv
  have := h.2 i (by rw [← h.1]; exact hi)
  rw [Array.getElem?_eq_getElem hi] at this
  simp only [Option.some.injEq] at this
  rw [this]; rfl
theorem Ds.ext {c d : Array Value} {D : Nat → Nat} (h : Ds c D) (k : Ds d D) : c = d := by
  apply Array.ext_getElem?
  intro i
  by_cases hi : i < 64
  · rw [h.2 i hi, k.2 i hi]
  · rw [Array.getElem?_eq_none (by have := h.1; omega), Array.getElem?_eq_none (by have := k.1; omega)]
theorem Ds.set {c : Array Value} {D : Nat → Nat} (h : Ds c D) {k : Nat} (hk : k < 64) (d : Nat) : Ds (c.setIfInBounds k (.int .i64 d)) (put D k d) := by
  have hs := h.1
  refine ⟨by simpa using hs, fun i hi => ?_⟩
  rw [Array.getElem?_setIfInBounds]
  unfold put
  by_cases hik : i = k
  · subst hik
    rw [if_pos rfl, if_pos (by omega), if_pos rfl]
  · rw [if_neg (fun e => hik e.symm), if_neg hik]; exact h.2 i hi

theorem info23 : (Yba.prog.info? 23).map (·.size) = some 1 := by kernel_rfl
theorem info24 : (Yba.prog.info? 24).map (·.size) = some 64 := by kernel_rfl
theorem cells23 : Yba.prog.cellsOf 23 = 1 := by kernel_rfl

theorem run_part23 (c : Array Value) (D : Nat → Nat) (hc : Ds c D) (i : Nat) (hi : i < 64) (w : World) : (part 23 c (i * 1)).run Yba.prog w = .ok (.int .i64 (D i)) w := by
  have ha := Yba.isAgg23
  simp [part, Nat.mul_one, ha, hc.2 i hi]
theorem run_items (d : Nat) (c : Array Value) (D : Nat → Nat) (hc : Ds c D) (w : World) : ∀ is : List Nat, (∀ i ∈ is, i < 64) → (Op.eqItems (d + 1) 23 1 c c is).run Yba.prog w = .ok true w
  | [], _ => by simp [Op.eqItems]
  | i :: is, h => by
    have hi := h i (by simp)
    have ih := run_items d c D hc w is (fun j hj => h j (by simp [hj]))
    simp only [Op.eqItems, Sem.run_bind, run_part23 c D hc i hi, Result.andThen_ok, run_equalIn_int w d 23 .i64 .i64 _ _ Yba.underlying23]
    simpa using ih
/-- The same durations: equal. -/
theorem run_eq24 (c : Array Value) (D : Nat → Nat) (hc : Ds c D) (w : World) : (Op.equalIn 10000 24 (.agg c) (.agg c)).run Yba.prog w = .ok true w := by
  cases hq : Yba.prog.info? 23 with
  | none => have := info23; rw [hq] at this; simp at this
  | some i =>
    rw [show (10000 : Nat) = 9999 + 1 from rfl, run_equalIn_array w 9999 c c Yba.underlying24 hq, cells23]
    exact run_items 9998 c D hc w _ (fun i hi => List.mem_range.1 hi)
theorem guard24 (op : BinOp) (x y : Operand) (c d : Array Value) (w : World) : (eqGuard op 24 x y (.agg c) (.agg d)).run Yba.prog w = .ok () w := by
  have h : Yba.prog.eqGuardType Yba.prog.depth 24 = false := by kernel_rfl
  cases op <;> simp [eqGuard, h]

/-! ### Load, store, build -/
def ld24 (v : Value) : Sem Value := Instr.loadAt 24 v
def st24 (v c : Value) : Sem Unit := Instr.storeAt 24 v c
def bd40 (ps : Array (Nat × Value)) : Sem Value := Instr.build 40 ps
theorem loadAt24 (v : Value) : Instr.loadAt 24 v = ld24 v := rfl
theorem storeAt24 (v c : Value) : Instr.storeAt 24 v c = st24 v c := rfl
theorem build40 (ps : Array (Nat × Value)) : Instr.build 40 ps = bd40 ps := rfl

theorem run_ld24 (w : World) (b o : Nat) (c : Array Value) (D : Nat → Nat) (hc : Ds c D) (h : ∀ i, i < 64 → w.cell? ⟨b, o + i, none⟩ = some (.int .i64 (D i))) : (ld24 (.pointer (some ⟨b, o, none⟩))).run Yba.prog w = .ok (.agg c) w := by
  have hr : w.rangeAt b o c.toList := by
    intro j v hv
    have hj : j < 64 := by have := (List.getElem?_eq_some_iff.1 hv).1; simp [hc.1] at this; exact this
    rw [h j hj]
    rw [Array.getElem?_toList, hc.2 j hj] at hv
    exact hv
  have := run_loadAt_mid (P := Yba.prog) w b o 24 c.toList _ hr Yba.underlying24 rfl (by rw [Array.length_toList, hc.1]; exact info24)
  simpa [ld24] using this
theorem run_st24_new (w : World) (z c : Array Value) (D : Nat → Nat) (hz : z.size = 64) (hc : Ds c D) : (st24 (.pointer (some ⟨w.heap.size, 0, none⟩)) (.agg c)).run Yba.prog (w.alloc (.cells z 24)) = .ok () (w.alloc (.cells c 24)) :=
  run_storeAt_new (P := Yba.prog) w 24 z c (by rw [hc.1]; exact info24) (by rw [hz, hc.1]) hc.one

theorem fill_step {place : Nat → Option (Nat × Nat)} {cells : Array Value} {i off size : Nat} {v : Value} {rest : List (Nat × Value)} (hp : place i = some (off, size)) (hv : v.cells.size = size) (hl : off + size ≤ cells.size) :
    ∃ cs, Instr.fill place cells ((i, v) :: rest) = Instr.fill place cs rest ∧ cs.size = cells.size ∧ ∀ k, cs[k]? = if off ≤ k ∧ k < off + size then v.cells[k - off]? else cells[k]? := by
  subst hv
  obtain ⟨h1, h2⟩ := Great.foldl_set off v.cells.toList 0 cells
  refine ⟨_, ?_, h1, fun k => ?_⟩
  · rw [Instr.fill, hp]
    simp only [ne_eq, not_true_eq_false, decide_false, Bool.false_or, decide_eq_true_eq]
    rw [if_neg (by simp; omega)]
    congr 1
    rw [← Array.foldl_toList, Array.toList_zipIdx]
  · rw [h2 k]
    simp only [Nat.add_zero, Array.length_toList]
    by_cases hk : off ≤ k ∧ k < off + v.cells.size
    · rw [if_pos ⟨hk.1, hk.2, by omega⟩, if_pos hk]; simp
    · rw [if_neg (fun h => hk ⟨h.1, h.2.1⟩), if_neg hk]

theorem zero40 : (Yba.prog.info? 40).map (fun i => i.zero.map fun z => z.cells.size) = some (some 66) := by kernel_rfl
theorem places40 : (match Yba.prog.underlying 40 with | some (.struct fs) => fs.toList.mapM (fun f => (Yba.prog.info? f.type).map fun i => (f.offset, i.size)) | _ => none) = some [(0, 1), (1, 64), (65, 1)] := by kernel_rfl

theorem batch_cells (T : Nat) (c : Array Value) (D : Nat → Nat) (hc : Ds c D) (k : Int) : ∃ bat, Bat bat T D k ∧ ∀ w : World, (bd40 #[(0, .pointer (some ⟨T, 0, none⟩)), (1, .agg c), (2, .int .i64 k)]).run Yba.prog w = .ok (.agg bat) w := by
  have h0 := zero40
  have hp := places40
  cases hq : Yba.prog.info? 40 with
  | none => rw [hq] at h0; simp at h0
  | some it =>
    rw [hq] at h0
    simp only [Option.map_some, Option.some.injEq] at h0
    obtain ⟨z, hz, hzs⟩ := Option.map_eq_some_iff.1 h0
    rw [Yba.underlying40] at hp
    obtain ⟨c1, f1, s1, g1⟩ := fill_step (place := (([(0, 1), (1, 64), (65, 1)] : List (Nat × Nat)).toArray[·]?)) (cells := z.cells) (i := 0) (off := 0) (size := 1) (v := .pointer (some ⟨T, 0, none⟩)) (rest := [(1, .agg c), (2, .int .i64 k)]) rfl rfl (by omega)
    obtain ⟨c2, f2, s2, g2⟩ := fill_step (place := (([(0, 1), (1, 64), (65, 1)] : List (Nat × Nat)).toArray[·]?)) (cells := c1) (i := 1) (off := 1) (size := 64) (v := .agg c) (rest := [(2, .int .i64 k)]) rfl hc.1 (by omega)
    obtain ⟨c3, f3, s3, g3⟩ := fill_step (place := (([(0, 1), (1, 64), (65, 1)] : List (Nat × Nat)).toArray[·]?)) (cells := c2) (i := 2) (off := 65) (size := 1) (v := .int .i64 k) (rest := []) rfl rfl (by omega)
    refine ⟨c3, ⟨by omega, ?_, fun i hi => ?_, ?_⟩, fun w => ?_⟩
    · rw [g3, if_neg (by omega), g2, if_neg (by omega), g1, if_pos (by omega)]; rfl
    · rw [g3, if_neg (by omega), g2, if_pos (by omega), show 1 + i - 1 = i by omega]; exact hc.2 i hi
    · rw [g3, if_pos (by omega)]; rfl
    · refine run_build w 40 _ c3 ?_
      simp only [Program.built, hq, Yba.underlying40, hz]
      simp only [] at hp
      rw [hp]
      simp only []
      rw [f1, f2, f3, Instr.fill]
end Go.Proofs.Ybulkdzho
