/-
  BLOCKS OF FLOATS OF WHICH NOTHING MORE IS SAID, and the blocks that are kept; append onto such rows.
-/
import Derived.Test.YbulkdzeiDoorWalksA
import Derived.Test.YbulkdzeiDoorCIns
import Derived.Test.YbulkdzeiDoorCFloat
import Derived.Test.YbulkdzeiDoorCLow
import Derived.Laws.CopyOwn
import Derived.Lib.AppendZeros
namespace Go.Proofs.YbulkdzeiDoor.C
open Go Go.RowKit
open Go.Proofs.YbulkdzeiDoor.A (fbits ffrom run_fadd addV addN run_store_float)

theorem Hid.mk {p : Prop} (h : p) : Hid p := h
theorem lt_of_heap {w : World} {b : Nat} {x : Obj} (h : w.heap[b]? = some x) : b < w.heap.size := (Array.getElem?_eq_some_iff.1 h).1
theorem cell_heap {w : World} {g o : Nat} {c : Array Value} {t : TypeId} {fr : Nat × Nat} {v : Value} (h : w.heap[g]? = some (.cells c t fr)) (hv : c[o]? = some v) : w.cell? ⟨g, o, none⟩ = some v := by
  simp [World.cell?, h, hv]
theorem frozen_heap {w : World} {g o : Nat} {c : Array Value} {t : TypeId} (h : w.heap[g]? = some (.cells c t (0, 0))) : w.frozen? ⟨g, o, none⟩ = false := by
  simp [World.frozen?, h]
theorem cell_below {w w' : World} {p : Addr} {v : Value} (hb : Below w.heap.size w w') (h : w.cell? p = some v) : w'.cell? p = some v := (hb.cell (World.block_lt_of_cell? w p h)).trans h
theorem heap_below {w w' : World} {b : Nat} {x : Obj} (hb : Below w.heap.size w w') (h : w.heap[b]? = some x) : w'.heap[b]? = some x := (hb.block b (lt_of_heap h)).trans h
theorem heap_setCell_same {w : World} {b o : Nat} {c : Array Value} {t : TypeId} {fr : Nat × Nat} (h : w.heap[b]? = some (.cells c t fr)) (v : Value) :
    (w.setCell ⟨b, o, none⟩ v).heap[b]? = some (.cells (c.setIfInBounds o v) t fr) := by
  simp [World.setCell, Array.getElem?_modify, h]
theorem heap_old {w : World} {b : Nat} {x : Obj} (h : w.heap[b]? = some x) (o : Obj) : (w.alloc o).heap[b]? = some x := (Below.heap_alloc _ _ _ (lt_of_heap h)).trans h
theorem alloc_drewN (w : World) (n : Nat) (o : Obj) : (w.drewN n).alloc o = (w.alloc o).drewN n := rfl
theorem setCell_drewN (w : World) (n : Nat) (a : Addr) (v : Value) : (w.drewN n).setCell a v = (w.setCell a v).drewN n := rfl
theorem below_drewN {B : Nat} {a w : World} (h : Below B a w) (n : Nat) : Below B a (w.drewN n) := h.trans ⟨rfl, rfl, rfl, Nat.le_refl _, fun _ _ => rfl⟩

/-! ### Go's float operations, value and world written out -/
def subV (w : World) (a b : Nat) : Nat := match FloatKind.f64.format.sub a b with
  | none => Question.cut (.nanBits .f64 a b) (w.tape w.drawn (.nanBits .f64 a b))
  | some s => s
def subN (a b : Nat) : Nat := match FloatKind.f64.format.sub a b with
  | none => 1
  | some _ => 0
theorem run_fsub (t : TypeId) (a b : Nat) (w : World) : (binOp .sub t (.float .f64 a) (.float .f64 b)).run Ybad.prog w = .ok (.float .f64 (subV w a b)) (w.drewN (subN a b)) := by
  unfold subV subN
  cases h : FloatKind.f64.format.sub a b with
  | none => simp [binOp, Op.floatArith, h, Question.forced, World.drewN]
  | some s => simp [binOp, Op.floatArith, h, World.drewN_zero]
def mulV (w : World) (a b : Nat) : Nat := match FloatKind.f64.format.mul a b with
  | none => Question.cut (.nanBits .f64 a b) (w.tape w.drawn (.nanBits .f64 a b))
  | some s => s
def mulN (a b : Nat) : Nat := match FloatKind.f64.format.mul a b with
  | none => 1
  | some _ => 0
theorem run_fmul (t : TypeId) (a b : Nat) (w : World) : (binOp .mul t (.float .f64 a) (.float .f64 b)).run Ybad.prog w = .ok (.float .f64 (mulV w a b)) (w.drewN (mulN a b)) := by
  unfold mulV mulN
  cases h : FloatKind.f64.format.mul a b with
  | none => simp [binOp, Op.floatArith, h, Question.forced, World.drewN]
  | some s => simp [binOp, Op.floatArith, h, World.drewN_zero]

/-! ### Blocks of floats -/
def isF (v : Value) : Prop := ∃ x, v = .float .f64 x
/-- Block b holds cap floats. -/
def FB (w : World) (b cap : Nat) : Prop := ∃ c : Array Value, w.heap[b]? = some (.cells c 24 (0, 0)) ∧ c.size = cap ∧ ∀ v ∈ c.toList, isF v
/-- A row of n floats in a block that is not kept. -/
def FRow (w : World) (K : Nat → Prop) (v : Value) (n : Nat) : Prop :=
  (v = .slice none 0 0 ∧ n = 0) ∨ ∃ b cap, v = .slice (some ⟨b, 0, none⟩) n cap ∧ n ≤ cap ∧ cap ≤ maxLen ∧ ¬ K b ∧ FB w b cap
/-- The blocks of K are kept; blocks of floats outside K stay such. -/
structure KChg (K : Nat → Prop) (w w' : World) : Prop where
  os : w'.os = w.os
  tape : w'.tape = w.tape
  output : w'.output = w.output
  size : w.heap.size ≤ w'.heap.size
  keep : ∀ b, K b → w'.heap[b]? = w.heap[b]?
  junk : ∀ b cap, ¬ K b → FB w b cap → FB w' b cap

theorem FB.lt {w : World} {b cap : Nat} (h : FB w b cap) : b < w.heap.size := by obtain ⟨c, h, _⟩ := h; exact lt_of_heap h
theorem KChg.refl (K : Nat → Prop) (w : World) : KChg K w w := ⟨rfl, rfl, rfl, Nat.le_refl _, fun _ _ => rfl, fun _ _ _ h => h⟩
theorem KChg.trans {K : Nat → Prop} {a b c : World} (h : KChg K a b) (k : KChg K b c) : KChg K a c :=
  ⟨k.os.trans h.os, k.tape.trans h.tape, k.output.trans h.output, Nat.le_trans h.size k.size, fun x hx => (k.keep x hx).trans (h.keep x hx), fun x cap hx hf => k.junk x cap hx (h.junk x cap hx hf)⟩
theorem KChg.drewN {K : Nat → Prop} {a b : World} (h : KChg K a b) (n : Nat) : KChg K a (b.drewN n) := h.trans ⟨rfl, rfl, rfl, Nat.le_refl _, fun _ _ => rfl, fun _ _ _ h => h⟩
theorem KChg.drew {K : Nat → Prop} {a b : World} (h : KChg K a b) : KChg K a b.drew := h.trans ⟨rfl, rfl, rfl, Nat.le_refl _, fun _ _ => rfl, fun _ _ _ h => h⟩
theorem KChg.of_below {K : Nat → Prop} {w w' : World} (hK : ∀ b, K b → b < w.heap.size) (h : Below w.heap.size w w') : KChg K w w' :=
  ⟨h.os, h.tape, h.output, h.size, fun b hb => h.block b (hK b hb), fun b cap _ hf => by
    obtain ⟨c, h1, h2⟩ := hf
    exact ⟨c, heap_below h h1, h2⟩⟩
theorem KChg.below {K : Nat → Prop} {w w' : World} (h : KChg K w w') {B : Nat} (hB : ∀ b, b < B → K b) : Below B w w' := ⟨h.os, h.tape, h.output, h.size, fun b hb => h.keep b (hB b hb)⟩
theorem KChg.mono {K K' : Nat → Prop} {w w' : World} (h : KChg K w w') (hk : ∀ b, K' b → K b) (hn : ∀ b cap, ¬ K' b → K b → FB w b cap → FB w' b cap) : KChg K' w w' :=
  ⟨h.os, h.tape, h.output, h.size, fun b hb => h.keep b (hk b hb), fun b cap hb hf => by
    by_cases hK : K b
    · exact hn b cap hb hK hf
    · exact h.junk b cap hK hf⟩
theorem FRow.chg {w w' : World} {K : Nat → Prop} {v : Value} {n : Nat} (h : FRow w K v n) (hc : KChg K w w') : FRow w' K v n := by
  rcases h with h | ⟨b, cap, h1, h2, h3, h4, h5⟩
  · exact .inl h
  · exact .inr ⟨b, cap, h1, h2, h3, h4, hc.junk b cap h4 h5⟩
theorem FRow.len {w : World} {K : Nat → Prop} {v : Value} {n : Nat} (h : FRow w K v n) : ∃ a c, v = .slice a n c := by
  rcases h with ⟨rfl, rfl⟩ | ⟨b, cap, rfl, _⟩
  · exact ⟨_, _, rfl⟩
  · exact ⟨_, _, rfl⟩
theorem isF.one {v : Value} (h : isF v) : v.oneCell' = true := by obtain ⟨x, rfl⟩ := h; rfl
theorem FRow.own {w : World} {K : Nat → Prop} {v : Value} {n : Nat} (h : FRow w K v n) : ∃ xs, w.ownsRow 0 24 1 v n xs ∧ ∀ u ∈ xs, isF u := by
  rcases h with ⟨rfl, rfl⟩ | ⟨b, cap, rfl, h2, h3, h4, c, h5, h6, h7⟩
  · exact ⟨[], World.ownsRow_nil _ _ _ _, fun u hu => absurd hu List.not_mem_nil⟩
  · refine ⟨c.toList.take n, ⟨by simp; omega, .inr ⟨b, cap, c, rfl, Nat.zero_le _, h5, h2, h3, by omega, by simp⟩⟩, fun u hu => h7 u (List.mem_of_mem_take hu)⟩
/-- The cell at k. -/
theorem FRow.cell {w : World} {K : Nat → Prop} {v : Value} {n k : Nat} (h : FRow w K v n) (hk : k < n) : ∃ b cap x, v = .slice (some ⟨b, 0, none⟩) n cap ∧ w.cell? ⟨b, k, none⟩ = some (.float .f64 x) ∧ w.frozen? ⟨b, k, none⟩ = false ∧ ¬ K b ∧ FB w b cap ∧ n ≤ cap := by
  rcases h with ⟨rfl, rfl⟩ | ⟨b, cap, rfl, h2, h3, h4, c, h5, h6, h7⟩
  · omega
  · obtain ⟨x, hx⟩ := h7 c[k] (by simp)
    exact ⟨b, cap, x, rfl, cell_heap h5 (by rw [Array.getElem?_eq_getElem (by omega), hx]), frozen_heap h5, h4, ⟨c, h5, h6, h7⟩, h2⟩
theorem FB.set {w : World} {b cap : Nat} (h : FB w b cap) (b' o x : Nat) : FB (w.setCell ⟨b', o, none⟩ (.float .f64 x)) b cap := by
  obtain ⟨c, h1, h2, h3⟩ := h
  by_cases hb : b = b'
  · subst hb
    refine ⟨_, heap_setCell_same h1 _, by simp [h2], fun v hv => ?_⟩
    have : v ∈ c.toList.set o (.float .f64 x) := by simpa using hv
    rcases List.mem_or_eq_of_mem_set this with h | h
    · exact h3 v h
    · exact ⟨x, h⟩
  · exact ⟨c, (Below.heap_setCell _ _ _ _ hb).trans h1, h2, h3⟩
theorem KChg.set {K : Nat → Prop} {a w : World} (h : KChg K a w) {b : Nat} (hb : ¬ K b) (o x : Nat) : KChg K a (w.setCell ⟨b, o, none⟩ (.float .f64 x)) :=
  h.trans ⟨rfl, rfl, rfl, by simp [World.setCell], fun k hk => Below.heap_setCell _ _ _ _ (fun e => hb (by have e' : k = b := e; rw [← e']; exact hk)), fun k cap _ hf => hf.set b o x⟩

theorem info24 : (Ybad.prog.info? 24).map (fun i => (i.zero, i.size, i.bytes)) = some (some (.float .f64 0), 1, 8) := by kernel_rfl

/-- append of some floats (given by an address) onto a row of floats. -/
theorem append_news (w : World) (K : Nat → Prop) (v : Value) (n m c : Nat) (a : Addr) (news : List Value) (hv : FRow w K v n) (hK : ∀ b, K b → b < w.heap.size) (hl : news.length = m) (hnews : ∀ j u, news[j]? = some u → w.cell? (a.add j) = some u) (hF : ∀ u ∈ news, isF u) (hb : n + m ≤ 1000000000) :
    ∃ v' w', (Builtin.append_ #[22, 22] 22 #[v, .slice (some a) m c]).run Ybad.prog w = .ok v' w' ∧ FRow w' K v' (n + m) ∧ KChg K w w' := by
  obtain ⟨i0, hi, hz0, hz1, hz2⟩ := info_parts info24
  have hone : ∀ u ∈ news, u.oneCell' = true := fun u hu => (hF u hu).one
  have new : ∀ (xs : List Value) (z : Nat), (∀ u ∈ xs, isF u) → xs.length = n + m → n + m ≤ z → z ≤ maxLen → FRow (w.drew.alloc (.cells (xs.toArray ++ Builtin.zeroCells (Value.float .f64 0).cells (z - (n + m))) 24)) K (.slice (some ⟨w.heap.size, 0, none⟩) (n + m) z) (n + m) ∧
      KChg K w (w.drew.alloc (.cells (xs.toArray ++ Builtin.zeroCells (Value.float .f64 0).cells (z - (n + m))) 24)) := fun xs z hxs hxl hz1 hz2 => by
    refine ⟨.inr ⟨w.heap.size, z, rfl, hz1, hz2, fun h => Nat.lt_irrefl _ (hK _ h), _, heap_alloc_new w.drew _, ?_, fun u hu => ?_⟩, KChg.of_below hK ((Below.refl _ _).drew.alloc (Nat.le_refl _) _)⟩
    · simp only [Array.size_append, List.size_toArray, size_zeroCells, hxl]
      simp [Value.cells]
      omega
    · simp only [Array.toList_append, List.mem_append] at hu
      rcases hu with h | h
      · exact hxs u h
      · refine ⟨0, ?_⟩
        simp [Builtin.zeroCells, Value.cells] at h
        obtain ⟨j, _, h⟩ := h
        rw [Nat.mod_one] at h
        exact h.symm
  rcases hv with ⟨rfl, rfl⟩ | ⟨b, cap, rfl, h2, h3, h4, cur, h5, h6, h7⟩
  · by_cases hm : m = 0
    · subst hm
      have hn : news = [] := List.eq_nil_of_length_eq_zero hl
      subst hn
      refine ⟨.slice none 0 0, w, ?_, .inl ⟨rfl, rfl⟩, KChg.refl _ _⟩
      simp [Builtin.append_, run_underlying Ybad.underlying22, sizeOf, typeInfo, hi, Builtin.lenOf, Builtin.firstCells, loadCells, loadCellsFrom]
    · have hr := run_append_nil (P := Ybad.prog) w 22 22 24 i0 _ Ybad.underlying22 hi hz0 a m c news (by rw [hz1, Nat.mul_one]; exact hl) hnews (by omega) (by omega) (by rw [hz2]; omega)
      have hge := grownCap_ge w m 0 24
      have hcm := grownCap_le_maxLen w m 0 24 (by unfold maxLen; omega)
      have := new news (grownCap w m 0 24) hF (by omega) (by omega) hcm
      simp only [Nat.zero_add] at this ⊢
      exact ⟨_, _, hr, this.1, this.2⟩
  · by_cases hroom : n + m ≤ cap
    · have hr := run_append_room (P := Ybad.prog) w 22 22 24 i0 Ybad.underlying22 hi b n cap cur h5 a m c news (by rw [hz1, Nat.mul_one]; exact hl) hnews hone hroom (by rw [hz1]; omega)
      have hF2 : ∀ u ∈ (cur.toList.take (n * i0.size) ++ news ++ cur.toList.drop (n * i0.size + news.length)), isF u := fun u hu => by
        simp only [List.mem_append] at hu
        rcases hu with (h | h) | h
        · exact h7 u (List.mem_of_mem_take h)
        · exact hF u h
        · exact h7 u (List.mem_of_mem_drop h)
      have hs2 : (cur.toList.take (n * i0.size) ++ news ++ cur.toList.drop (n * i0.size + news.length)).length = cap := by
        simp only [List.length_append, List.length_take, List.length_drop, Array.length_toList, hz1]
        omega
      have hFB : FB (w.setRow b (cur.toList.take (n * i0.size) ++ news ++ cur.toList.drop (n * i0.size + news.length)).toArray) b cap := ⟨_, setRow_heap w b cur _ 24 _ h5, by simpa using hs2, fun u hu => hF2 u (by simpa using hu)⟩
      refine ⟨_, _, hr, .inr ⟨b, cap, rfl, hroom, h3, h4, hFB⟩, rfl, rfl, rfl, by simp [World.setRow], fun k hk => setRow_other w b k _ (fun e => h4 (e ▸ hk)), fun k cp hk hf => ?_⟩
      by_cases hkb : k = b
      · subst hkb
        obtain ⟨cc, g1, g2, g3⟩ := hf
        rw [h5] at g1
        cases g1
        rw [← g2, h6]
        exact hFB
      · obtain ⟨cc, g1, g2⟩ := hf
        exact ⟨cc, (setRow_other w b k _ hkb).trans g1, g2⟩
    · have hcells : ∀ j u, (cur.toList.take n)[j]? = some u → w.cell? ((⟨b, 0, none⟩ : Addr).add j) = some u := fun j u hu => by
        have hadd : (⟨b, 0, none⟩ : Addr).add j = ⟨b, j, none⟩ := by unfold Addr.add; split <;> simp_all
        rw [hadd]
        rw [List.getElem?_take] at hu
        split at hu
        · exact cell_heap h5 (by simpa using hu)
        · cases hu
      have hr := run_append_grow (P := Ybad.prog) w 22 22 24 i0 _ Ybad.underlying22 hi hz0 ⟨b, 0, none⟩ n cap (cur.toList.take n) (by rw [hz1]; simp; omega) hcells a m c news (by rw [hz1, Nat.mul_one]; exact hl) hnews (by omega) (by omega) (growslice_fits (by omega) (by rw [hz2]; omega))
      have hge := grownCap_ge w (n + m) cap 24
      have hcm := grownCap_le_maxLen w (n + m) cap 24 (by unfold maxLen; omega)
      have := new (cur.toList.take n ++ news) (grownCap w (n + m) cap 24) (fun u hu => by
        rcases List.mem_append.1 hu with h | h
        · exact h7 u (List.mem_of_mem_take h)
        · exact hF u h) (by simp; omega) hge hcm
      rw [show (cur.toList.take n ++ news).toArray = (cur.toList.take n).toArray ++ news.toArray by simp] at this
      exact ⟨_, _, hr, this.1, this.2⟩

/-- append of a row of floats onto a row of floats (the same block, for all we know). -/
theorem append_frow (w : World) (K : Nat → Prop) (v u : Value) (n m : Nat) (hv : FRow w K v n) (hu : FRow w K u m) (hK : ∀ b, K b → b < w.heap.size) (hb : n + m ≤ 1000000000) :
    ∃ v' w', (Builtin.append_ #[22, 22] 22 #[v, u]).run Ybad.prog w = .ok v' w' ∧ FRow w' K v' (n + m) ∧ KChg K w w' := by
  obtain ⟨i0, hi, hz0, hz1, hz2⟩ := info_parts info24
  obtain ⟨ys, hys, hyF⟩ := hu.own
  rcases hu with ⟨rfl, rfl⟩ | ⟨b, cap, rfl, h2, h3, h4, h5⟩
  · obtain ⟨xs, hxs, _⟩ := hv.own
    exact ⟨v, w, run_append_owned_none (P := Ybad.prog) w 0 22 22 24 i0 1 Ybad.underlying22 hi v n xs hxs, hv, KChg.refl _ _⟩
  · exact append_news w K v n m cap ⟨b, 0, none⟩ ys hv hK (by rw [hys.1, Nat.mul_one]) (hys.cells rfl) hyF hb
/-- append of one float that lies in a block of its own. -/
theorem append_flt (w : World) (K : Nat → Prop) (v : Value) (n h x : Nat) (hv : FRow w K v n) (hh : w.heap[h]? = some (.cells #[.float .f64 x] 24 (0, 0))) (hK : ∀ b, K b → b < w.heap.size) (hb : n + 1 ≤ 1000000000) :
    ∃ v' w', (Builtin.append_ #[22, 22] 22 #[v, .slice (some ⟨h, 0, none⟩) 1 1]).run Ybad.prog w = .ok v' w' ∧ FRow w' K v' (n + 1) ∧ KChg K w w' := by
  refine append_news w K v n 1 1 ⟨h, 0, none⟩ [.float .f64 x] hv hK rfl (fun j u hu => ?_) (fun u hu => ⟨x, by simpa using hu⟩) hb
  cases j with
  | zero =>
    have hadd : (⟨h, 0, none⟩ : Addr).add 0 = ⟨h, 0, none⟩ := by simp [Addr.add]
    rw [hadd]
    exact cell_heap hh (by simpa using hu)
  | succ j => simp at hu
end Go.Proofs.YbulkdzeiDoor.C
