/-
  THE WALK of LawS6292BPart.
-/
import Derived.Test.YbulkdzhaFmtName
import Derived.Deep.DeepCutAuto
import Derived.Deep.CutBlock
import Derived.Great.BuildSlice
import Derived.Laws.Tables
namespace Go.Proofs.YbulkdzhaFmt
open Go Go.RowKit
open Go.Extern.Stop Go.Stop Go.Extern
attribute [local go_sem ↓] loadAt25 storeAt25
attribute [local go_sem] run_load25 run_store25 run_eq25 guard25 has20_drew has20_drewN row20_drew row20_drewN soft_drew soft_drewN has20_alloc row20_alloc has20_new row20_new soft_alloc soft_new put20_new put20_drew

/-- An identifier lies at the address, whatever the address is. -/
def At20 (w : World) (a : Addr) (c : Array Value) : Prop := c.size = 20 ∧ ∀ j, j < 20 → w.cell? (a.add j) = c[j]?
theorem run_loadA (w : World) (a : Addr) (c : Array Value) (h : At20 w a c) : (ld25 (.pointer (some a))).run Ybaf.prog w = .ok (.agg c) w := by
  have hl := run_loadCells_list (P := Ybaf.prog) w a c.toList (fun j v hv => by
    have hj : j < 20 := by have := (List.getElem?_eq_some_iff.1 hv).1; simp [h.1] at this; exact this
    rw [h.2 j hj]; simpa using hv)
  have hs := info25
  cases hq : Ybaf.prog.info? 25 with
  | none => simp [hq] at hs
  | some i =>
    have hs' : i.size = 20 := by simpa [hq] using hs
    have hagg : (isAgg 25).run Ybaf.prog w = .ok true w := by
      unfold isAgg
      rw [Sem.run_bind, run_underlying Ybaf.underlying25 w]
      rfl
    have hl' : (loadCells a 20).run Ybaf.prog w = .ok c w := by simpa [h.1] using hl
    simp [ld25, Instr.loadAt, Instr.sureAddr, loadVar, Sem.run_bind, hagg, sizeOf, typeInfo, hq, hs', hl']
theorem At20.below {w w' : World} {a : Addr} {c : Array Value} (hb : Below w.heap.size w w') (h : At20 w a c) : At20 w' a c := by
  refine ⟨h.1, fun j hj => ?_⟩
  have e := h.2 j hj
  rw [Array.getElem?_eq_getElem (by have := h.1; omega)] at e ⊢
  exact cell_below hb e

theorem isId_one {c : Array Value} (h : IsId c) : ∀ v ∈ c.toList, v.oneCell' = true := by
  intro v hv
  obtain ⟨b, _, _, rfl⟩ := h.2 v hv
  rfl
theorem ids_app {cur cur' c : Array Value} {k : Nat} (hI : Ids cur k) (hc : IsId c) (hs : cur'.size = cur.size) (hl : (k + 1) * 20 ≤ cur.size)
    (h : ∀ j, cur'[j]? = if k * 20 ≤ j ∧ j < (k + 1) * 20 then c[j - k * 20]? else cur[j]?) : Ids cur' (k + 1) := by
  refine ⟨by omega, fun i hi => ?_⟩
  by_cases hik : i = k
  · subst hik
    refine isId_congr hc (fun j hj => ?_) (by simp; omega)
    rw [Array.getElem?_extract, if_pos (by omega), h, if_pos (by omega), show i * 20 + j - i * 20 = j by omega]
  · refine isId_congr (hI.2 i (by omega)) (fun j hj => ?_) (by simp; omega)
    rw [Array.getElem?_extract, Array.getElem?_extract, if_pos (by omega), if_pos (by omega), h, if_neg (by omega)]

/-! ### A slice literal of one identifier -/
def bs22 (n : Nat) (ps : Array (Nat × Value)) : Sem Value := Instr.buildSlice 22 n ps
theorem buildSlice22 (n : Nat) (ps : Array (Nat × Value)) : Instr.buildSlice 22 n ps = bs22 n ps := rfl
theorem rep20 (v : Value) : Array.replicate 20 v = #[v, v, v, v, v, v, v, v, v, v, v, v, v, v, v, v, v, v, v, v] := rfl
theorem fill20 (d : Array Value) (hd : d.size = 20) (f : Nat → Option (Nat × Nat)) (hf : f 0 = some (0, 20)) : Instr.fill f (Array.replicate 20 (.int .u8 0)) [(0, .agg d)] = some d := by
  obtain ⟨l⟩ := d
  match l, hd with
  | [a0, a1, a2, a3, a4, a5, a6, a7, a8, a9, b0, b1, b2, b3, b4, b5, b6, b7, b8, b9], _ => simp [Instr.fill, hf, Value.cells, rep20]
theorem run_bs22 (w : World) (d : Array Value) (hd : d.size = 20) : (bs22 1 #[(0, .agg d)]).run Ybaf.prog w = .ok (.slice (some ⟨w.heap.size, 0, none⟩) 1 1) (w.alloc (.cells d 25)) := by
  have h : (Ybaf.prog.info? 25).map (fun i => (i.zero, i.size, i.bytes)) = some (some (.agg (Array.replicate 20 (.int .u8 0))), 20, 20) := by kernel_rfl
  obtain ⟨i0, hi, hz0, hz1, hz2⟩ := info_parts h
  refine run_buildSlice w 22 25 1 _ d i0 _ Ybaf.underlying22 hi hz0 (by rw [hz1]; omega) (by rw [hz1]; omega) ?_
  rw [hz1]
  have e : (Array.range (1 * 20)).map ((Value.agg (Array.replicate 20 (.int .u8 0))).cells[· % (Value.agg (Array.replicate 20 (.int .u8 0))).cells.size]!) = Array.replicate 20 (.int .u8 0) := by kernel_rfl
  rw [e]
  exact fill20 d hd _ rfl
attribute [local go_sem ↓] buildSlice22
attribute [local go_sem] run_bs22

/-- The block holds q numbers. -/
def Nums (x : Array Value) (q : Nat) : Prop := x.size = q ∧ ∀ j, j < q → ∃ n : Int, x[j]? = some (.int .i64 n)
theorem nums_made (q : Nat) : Nums (madeCells (Value.int .i64 0).cells (q * 1)) q := by
  refine ⟨by rw [size_madeCells]; omega, fun j hj => ⟨0, ?_⟩⟩
  simp [madeCells, Value.cells, hj, Nat.mod_one]
theorem nums_put {x : Array Value} {q j : Nat} (h : Nums x q) (n : Int) : Nums (x.setIfInBounds j (.int .i64 n)) q := by
  refine ⟨by simpa using h.1, fun i hi => ?_⟩
  rw [Array.getElem?_setIfInBounds]
  by_cases hij : j = i
  · subst hij
    rw [if_pos rfl, if_pos (by have := h.1; omega)]
    exact ⟨n, rfl⟩
  · rw [if_neg hij]; exact h.2 i hi

/-- copy(dst, src): n elements; the second block may be longer. -/
theorem copy_from {P : Program} (w : World) (dT sT ty elem : TypeId) (i : TypeInfo) (g s n c1 c2 : Nat) (cur cs : Array Value) (t : TypeId)
    (hu : P.underlying dT = some (.slice elem)) (hi : P.info? elem = some i)
    (hg : w.heap[g]? = some (.cells cur t (0, 0))) (hs : ∀ j v, cs[j]? = some v → w.cell? ⟨s, j, none⟩ = some v) (h1 : cur.size = n * i.size) (h2 : cs.size = n * i.size) (ho : ∀ v ∈ cs.toList, v.oneCell' = true) :
    ∃ w', (Builtin.copy_ #[dT, sT] ty #[.slice (some ⟨g, 0, none⟩) n c1, .slice (some ⟨s, 0, none⟩) n c2]).run P w = .ok (goInt n) w' ∧ w'.heap[g]? = some (.cells cs t (0, 0)) ∧
      (∀ k, k ≠ g → w'.heap[k]? = w.heap[k]?) ∧ w'.heap.size = w.heap.size ∧ ∀ B, B ≤ g → Below B w w' := by
  refine ⟨w.setRow g cs, ?_, setRow_heap w g cur cs t _ hg, fun k hk => setRow_other w g k cs hk, by simp [World.setRow], fun _ hB => below_setRow (Below.refl _ _) hB cs⟩
  have hl := run_firstCells_some (P := P) w i.size n ⟨s, 0, none⟩ n c2 cs.toList (by simpa using h2) (by
    intro j v hv
    have hadd : (⟨s, 0, none⟩ : Addr).add j = ⟨s, j, none⟩ := by unfold Addr.add; split <;> simp_all
    rw [hadd]
    exact hs j v (by simpa using hv))
  have hst := run_storeCells_at P g 0 t cs.toList 0 cur w hg (by simp; omega) ho
  have e : (List.take 0 cur.toList ++ cs.toList ++ List.drop (0 + cs.toList.length) cur.toList).toArray = cs := by
    apply Array.toList_inj.1
    simp
    omega
  simp only [Nat.add_zero] at hst
  rw [e] at hst
  simp [Builtin.copy_, run_underlying hu, Builtin.lenOf, sizeOf, typeInfo, hi, hl, hst]
theorem ids_cell {z : Array Value} {n i : Nat} (h : Ids z n) (hi : i < n * 20) : ∃ b : Int, z[i]? = some (.int .u8 b) := by
  obtain ⟨b, _, _, hb⟩ := (h.2 (i / 20) (by omega)).at (k := i % 20) (by omega)
  refine ⟨b, ?_⟩
  rw [Array.getElem?_extract, if_pos (by have := h.1; omega)] at hb
  rw [← hb]; congr 1; omega
theorem ids_one {z : Array Value} {n : Nat} (h : Ids z n) : ∀ v ∈ (z.extract 0 (n * 20)).toList, v.oneCell' = true := by
  intro v hv
  obtain ⟨i, hi, rfl⟩ := List.getElem_of_mem hv
  have hs := h.1
  have hi' : i < n * 20 := by simp at hi; omega
  obtain ⟨b, hb⟩ := ids_cell h hi'
  have e : (z.extract 0 (n * 20)).toList[i]? = some (.int .u8 b) := by
    rw [Array.getElem?_toList, Array.getElem?_extract, if_pos (by omega), Nat.zero_add]; exact hb
  rw [List.getElem?_eq_getElem hi] at e
  simp only [Option.some.injEq] at e
  rw [e]; rfl
theorem nums_one {x : Array Value} {n : Nat} (h : Nums x n) : ∀ v ∈ x.toList, v.oneCell' = true := by
  intro v hv
  obtain ⟨i, hi, rfl⟩ := List.getElem_of_mem hv
  obtain ⟨b, hb⟩ := h.2 i (by have := h.1; simp at hi; omega)
  rw [← Array.getElem?_toList, List.getElem?_eq_getElem hi] at hb
  simp only [Option.some.injEq] at hb
  rw [hb]; rfl
/-- The sim with nothing but its ring: its 1,100 cells stay a letter. -/
def bd48 (ps : Array (Nat × Value)) : Sem Value := Instr.build 48 ps
theorem build48 (ps : Array (Nat × Value)) : Instr.build 48 ps = bd48 ps := rfl
theorem sim_cells : ∃ y48 : Option Addr → Array Value, (∀ p, (y48 p)[1033]? = some (.pointer p)) ∧ ∀ (w : World) (p : Option Addr), (bd48 #[(6, .pointer p)]).run Ybaf.prog w = .ok (.agg (y48 p)) w := by
  refine ⟨fun p => (Ybaf.prog.built 48 [(6, .pointer p)]).getD #[], fun p => by kernel_rfl, fun w p => ?_⟩
  have h : (Ybaf.prog.built 48 [(6, .pointer p)]).isSome = true := by kernel_rfl
  obtain ⟨y, hy⟩ := Option.isSome_iff_exists.1 h
  show _ = Result.ok (Value.agg ((Ybaf.prog.built 48 [(6, Value.pointer p)]).getD #[])) w
  rw [hy]
  exact run_build w 48 _ y hy
attribute [local go_sem ↓] build48

theorem heap_alloc3 (w : World) (o o' o'' : Obj) : (((w.alloc o).alloc o').alloc o'').heap[w.heap.size + 2]? = some o'' := by
  have h := heap_alloc2 (w.alloc o) o' o''
  rwa [show (w.alloc o).heap.size + 1 = w.heap.size + 2 by simp] at h
theorem row_copy {z : Array Value} {j k : Nat} (hk : k < j) : (z.extract 0 (j * 20)).extract (k * 20) (k * 20 + 20) = z.extract (k * 20) (k * 20 + 20) := by
  rw [Array.extract_extract]
  congr 1 <;> omega
theorem ids_copy {z : Array Value} {j : Nat} (h : Ids z j) : Ids (z.extract 0 (j * 20)) j := by
  refine ⟨by have := h.1; simp; omega, fun k hk => ?_⟩
  rw [row_copy hk]; exact h.2 k hk

theorem info25' : (Ybaf.prog.info? 25).map (fun i => (i.zero, i.size, i.bytes)) = some (some (.agg (Array.replicate 20 (.int .u8 0))), 20, 20) := by kernel_rfl
theorem info3' : (Ybaf.prog.info? 3).map (fun i => (i.zero, i.size, i.bytes)) = some (some (.int .i64 0), 1, 8) := by kernel_rfl

set_option maxRecDepth 100000 in
set_option maxHeartbeats 4000000 in
theorem law_any (F : Interp) (a0 b0 : Option Addr) (n cp m cm : Nat) (c : Array Value) (sel : Int) (hc : IsId c) (hs0 : 0 ≤ sel) (hs1 : sel ≤ 255) (hn1 : n ≤ 4096) (w : World) (hF : F.answers w.tape)
    (hraw : ∀ k, k < n → ∃ a d, a0 = some a ∧ IsId d ∧ At20 w (a.add (k * 20)) d)
    (hnum : ∀ k, k < m → ∃ a x, b0 = some a ∧ w.cell? (a.add k) = some (.int .i64 x)) :
    Calls Ybaf.prog 3 #[.slice a0 n cp, .slice b0 m cm, .agg c, .int .u8 sel] w fun e w' => e = .returned (.bool true) ∧ Below w.heap.size w w' := by
  obtain ⟨i0, hi, hz0, hz1, hz2⟩ := info_parts info25'
  obtain ⟨i3, hi3, hy0, hy1, hy2⟩ := info_parts info3'
  obtain ⟨y48, y48_at, run_bd48⟩ := sim_cells
  have hcs := hc.1
  have HF := Hid.mk hF
  have HR := Hid.mk hraw
  have HM := Hid.mk hnum
  clear hF hraw hnum
  have hnle : decide ((4096 : Int) < (n : Int)) = false := by simp; omega
  have hnle' : ¬ ((4096 : Int) < (n : Int)) := by omega
  go_enter Ybaf.func3, Ybaf.ntmps3
  go_wp2_with (at_make; refine wpList_make_block _ rfl _ _ 22 rfl 25 i0 _ 20 Ybaf.underlying22 hi hz0 hz1 0 n rfl rfl (by omega) (by rw [hz2]; omega) (by unfold maxLen; omega) ?_; intro w1 hA1 hb1 hs1)
  have HC1 : Hid (w1.heap[w.heap.size]? = some (.cells c 25 (0, 0))) := heap_below hb1 (heap_alloc_new _ _)
  have HA1 : Hid (w1.heap[w.heap.size + 1]? = some (.cells (madeCells (Value.agg (Array.replicate 20 (.int .u8 0))).cells (n * 20)) 25 (0, 0))) := Hid.mk (by simpa using hA1)
  have hbel1 : Below w.heap.size w w1 := ((Below.refl _ _).alloc (Nat.le_refl _) _).trans (hb1.mono (by simp))
  clear hA1 hb1 hs1
  go_loopw [9, 37] (fun v i wr => ∃ (k : Nat) (y : Array Value), k ≤ n ∧ i = .int .i64 (k : Int) ∧ v = .slice (some ⟨w.heap.size + 1, 0, none⟩) k n ∧ y.size = n * 20 ∧ Ids y k ∧ wr.heap[w.heap.size + 1]? = some (.cells y 25 (0, 0)) ∧
      wr.heap[w.heap.size]? = some (.cells c 25 (0, 0)) ∧ Below w.heap.size w wr) (fun _ i _ => n - (intOf i).toNat)
  case atStart => exact ⟨0, _, by omega, rfl, rfl, by exact size_madeCells _ _, ⟨by omega, fun i hi => absurd hi (Nat.not_lt_zero _)⟩, HA1.out, HC1.out, hbel1⟩
  case round =>
    clear HA1 HC1 hbel1 hnle hnle'
    obtain ⟨k, y, hk, rfl, rfl, hy, hI, hs, hg, hbel⟩ := hrel
    have HS := Hid.mk hs
    have HG := Hid.mk hg
    clear hs hg
    by_cases hlt : k < n
    · obtain ⟨a, d, rfl, hd, hat⟩ := HR.out k hlt
      have hds := hd.1
      have hld := run_loadA _ _ _ (hat.below hbel)
      go_wp2_with (at_builtin; go_loud (refine wpList_append_block _ rfl _ _ 22 rfl 25 25 i0 20 Ybaf.underlying22 hi hz1 (w.heap.size + 1) k n y rfl (by exact heap_old (heap_old HS.out _) _) (wr.heap.size + 1) 1 1 d rfl (by exact heap_alloc2 _ _ _) (by omega) (by exact isId_one hd) (by omega) (by omega) ?_); intro w2 y2 hb2 hy2 hr2 hk2 hs2 hB2)
      have hI2 := ids_app hI hd hy2 (by omega) hr2
      have hbel2 : Below w.heap.size w w2 := ((hbel.alloc hbel.size _).alloc (Nat.le_trans hbel.size (by simp)) _).trans (hB2 _ (by omega))
      have HG2 : Hid (w2.heap[w.heap.size]? = some (.cells c 25 (0, 0))) := (hk2 _ (by omega)).trans (heap_old (heap_old HG.out _) _)
      have HS2 := Hid.mk hb2
      have hy2' : y2.size = n * 20 := by omega
      clear hb2 hr2 hk2 hs2 hB2 hld hat HS HG hI hbel hy hy2
      obtain ⟨wv, rfl⟩ : ∃ x, x = wr := ⟨wr, rfl⟩
      go_loopw [12] (fun i wr => ∃ (j : Nat) (y : Array Value), j ≤ k ∧ i = .int .i64 (j : Int) ∧ y.size = n * 20 ∧ Ids y (k + 1) ∧ wr.heap[w.heap.size + 1]? = some (.cells y 25 (0, 0)) ∧
        wr.heap[w.heap.size]? = some (.cells c 25 (0, 0)) ∧ Below w.heap.size w wr) (fun i _ => (intOf i).toNat)
      case atStart => exact ⟨k, y2, by omega, rfl, hy2', hI2, HS2.out, HG2.out, hbel2⟩
      case round =>
        clear HS2 HG2 hI2 hy2' hbel2
        obtain ⟨j, z, hj, rfl, hz, hI, hs, hg, hbel⟩ := hrel
        have HS := Hid.mk hs
        have HG := Hid.mk hg
        clear hs hg
        match j, hj with
        | 0, hj =>
          go_wp2_with fail
          go_quiet (fail)
          go_wp2_with fail
          go_roundw
          case rel => exact ⟨k + 1, z, by omega, by go_num, rfl, hz, hI, HS.out, HG.out, below_drewN hbel _⟩
          case measure => simp [intOf]; omega
        | j + 1, hj =>
          have hpos : decide ((0 : Int) < ((j + 1 : Nat) : Int)) = true := by simp
          have j0 : (0 : Int) ≤ (j : Int) + 1 := by omega
          have hw : IntKind.i64.wrap (j : Int) = (j : Int) := by rw [IntKind.wrap_i64]; omega
          obtain ⟨d1, hd1, hrow1⟩ : ∃ d, IsId d ∧ z.extract ((j + 1) * 20) ((j + 1) * 20 + 20) = d := ⟨_, hI.2 (j + 1) (by omega), rfl⟩
          obtain ⟨d0, hd0, hrow0⟩ : ∃ d, IsId d ∧ z.extract (j * 20) (j * 20 + 20) = d := ⟨_, hI.2 j (by omega), rfl⟩
          have q1 : has20 wr (w.heap.size + 1) ((j + 1) * 20) := has20_of HS.out hI (by omega)
          have q2 : row20 wr (w.heap.size + 1) ((j + 1) * 20) = d1 := (row20_of HS.out).trans hrow1
          have q3 : has20 wr (w.heap.size + 1) (j * 20) := has20_of HS.out hI (by omega)
          have q4 : row20 wr (w.heap.size + 1) (j * 20) = d0 := (row20_of HS.out).trans hrow0
          have jk : ((j : Int) + 1) < (k : Int) + 1 := by omega
          have jk' : (j : Int) < (k : Int) + 1 := by omega
          go_wp2_with fail
          refine wp_region_pick [0, 1, 2, 3, 4, 5, 6, 7, 8, 9, 10, 11] [12, 13] [0, 1, 2, 3, 4, 5, 6, 7, 8, 9, 10, 11]
            (fun w' => has20 w' (w.heap.size + 1) ((j + 1) * 20) ∧ row20 w' (w.heap.size + 1) ((j + 1) * 20) = d1 ∧ has20 w' (w.heap.size + 1) (j * 20) ∧ row20 w' (w.heap.size + 1) (j * 20) = d0)
            (by kernel_rfl) (by kernel_rfl) (fun _ _ d _ _ h => by cases d <;> exact h) ⟨q1, q2, q3, q4⟩ ?_
          iterate 12 (refine wpHead_cons (v := ?_) rfl (by rfl) ?_ ?_; rotate_left 1; (focus (rintro w0 ⟨s1, s2, s3, s4⟩; go_simp; first | done | with_reducible rfl)); simp only [Act.put, List.setIfInBounds_toArray, List.set_cons_zero, List.set_cons_succ])
          refine wpHead_nil ?_
          refine wpTail_step rfl rfl (by rfl) (fun K hK => ?_)
          go_simp
          refine (less_any d1 d0 hd1 hd0 _).mono ?_
          rintro e w3 ⟨⟨r, rfl⟩, hb3'⟩
          have hb3 : Below wr.heap.size wr w3 := (Below.refl _ _).drew.trans hb3'
          refine hK.out _ _ ?_
          have HS3 : Hid (w3.heap[w.heap.size + 1]? = some (.cells z 25 (0, 0))) := heap_below hb3 HS.out
          have HG3 : Hid (w3.heap[w.heap.size]? = some (.cells c 25 (0, 0))) := heap_below hb3 HG.out
          have hbel3 : Below w.heap.size w w3 := hbel.trans (hb3.mono hbel.size)
          clear hK K q1 q2 q3 q4 HS HG hbel hb3 hb3'
          refine wpTail_list _ _ _ rfl ?_
          simp only [List.filterMap_cons, List.filterMap_nil, List.getElem?_cons_succ, List.getElem?_cons_zero]
          cases r
          · go_wp2_with fail
            go_roundw
            case rel => exact ⟨k + 1, z, by omega, by go_num, rfl, hz, hI, HS3.out, HG3.out, hbel3⟩
            case measure => simp [intOf]; omega
          · have l1 := lt_of_heap HS3.out
            have hA := heap_old HS3.out (.cells d1 25)
            obtain ⟨z1, hz1h, hz1s, hz1r⟩ := put20_heap (o := (j + 1) * 20) hA hd0.1 (by have := hI.1; omega)
            have hI1 : Ids z1 (k + 1) := ids_put hI hd0 (by omega) hz1s hz1r
            obtain ⟨z2, hz2h, hz2s, hz2r⟩ := put20_heap (o := j * 20) hz1h hd1.1 (by have := hI1.1; omega)
            have hI2 : Ids z2 (k + 1) := ids_put hI1 hd1 (by omega) hz2s hz2r
            have p1 : has20 w3 (w.heap.size + 1) ((j + 1) * 20) := has20_of HS3.out hI (by omega)
            have p2 : row20 w3 (w.heap.size + 1) ((j + 1) * 20) = d1 := (row20_of HS3.out).trans hrow1
            have p3 : has20 w3 (w.heap.size + 1) (j * 20) := has20_of HS3.out hI (by omega)
            have p4 : row20 w3 (w.heap.size + 1) (j * 20) = d0 := (row20_of HS3.out).trans hrow0
            have p5 : soft w3 (w.heap.size + 1) := soft_of HS3.out
            have hnb : (put20 (w3.alloc (.cells d1 25)) (w.heap.size + 1) ((j + 1) * 20) d0).heap[w3.heap.size]? = some (.cells d1 25 (0, 0)) := by
              rw [put20_other _ _ _ _ _ (by omega)]; exact heap_alloc_new _ _
            have p6 := whole_has hnb hd1
            have p7 := whole_row hnb hd1
            have p8 := has20_of hz1h hI1 (show j < k + 1 by omega)
            have p9 := soft_of hz1h
            have HF2 := Hid.mk hz2h
            have HZ : Hid (z2.size = n * 20) := Hid.mk (by omega)
            have hd1s := hd1.1
            have hd0s := hd0.1
            clear hA hz1h hz1r hz2h hz2r hnb hrow0 hrow1 hz1s hz2s
            go_wp2_with fail
            go_roundw
            case rel =>
              refine ⟨j, z2, by omega, rfl, HZ.out, hI2, HF2.out, ?_, ?_⟩
              · rw [put20_other _ _ _ _ _ (by omega), put20_other _ _ _ _ _ (by omega)]
                exact heap_old HG3.out _
              · exact below_put20 (below_put20 (hbel3.alloc hbel3.size _) (by omega) _ _) (by omega) _ _
            case measure => simp [intOf]
    · obtain rfl : k = n := by omega
      obtain ⟨g0, hg0, hg0'⟩ : ∃ g0, g0 = w.heap.size + 1 ∧ w.heap.size < g0 := ⟨_, rfl, by omega⟩
      rw [← hg0] at HS ⊢
      clear hg0
      obtain ⟨wv, rfl⟩ : ∃ x, x = wr := ⟨wr, rfl⟩
      have hlt1 := lt_of_heap HS.out
      go_wp2_with (at_make; refine wpList_make_block _ rfl _ _ 22 rfl 25 i0 _ 20 Ybaf.underlying22 hi hz0 hz1 0 k rfl rfl (by omega) (by rw [hz2]; omega) (by unfold maxLen; omega) ?_; intro w2 hA2 hb2 hs2)
      obtain ⟨g1, hg1, hg1', hg1''⟩ : ∃ g1, g1 = wv.heap.size ∧ w.heap.size < g1 ∧ g0 < g1 := ⟨_, rfl, by have := hbel.size; omega, hlt1⟩
      have HS2 : Hid (w2.heap[g0]? = some (.cells y 25 (0, 0))) := heap_below hb2 HS.out
      have HG2 : Hid (w2.heap[w.heap.size]? = some (.cells c 25 (0, 0))) := heap_below hb2 HG.out
      have hbel2 : Below w.heap.size w w2 := hbel.trans (hb2.mono hbel.size)
      rw [← hg1] at hA2 ⊢
      have HA2 := Hid.mk hA2
      clear hA2 hb2 hs2 HS HG hbel hlt1 hg1
      go_loopw [14, 86] (fun v i wr => ∃ (l q : Nat) (z : Array Value), l ≤ k ∧ q ≤ l ∧ i = .int .i64 (l : Int) ∧ v = .slice (some ⟨g1, 0, none⟩) q k ∧ z.size = k * 20 ∧ Ids z q ∧ wr.heap[g1]? = some (.cells z 25 (0, 0)) ∧ wr.heap[g0]? = some (.cells y 25 (0, 0)) ∧
          wr.heap[w.heap.size]? = some (.cells c 25 (0, 0)) ∧ Below w.heap.size w wr) (fun _ i _ => k - (intOf i).toNat)
      case atStart => exact ⟨0, 0, _, by omega, by omega, rfl, rfl, by exact size_madeCells _ _, ⟨by omega, fun i hi => absurd hi (Nat.not_lt_zero _)⟩, HA2.out, HS2.out, HG2.out, hbel2⟩
      case round =>
        clear HA2 HS2 HG2 hbel2
        obtain ⟨l, q, z, hl, hq, rfl, rfl, hzs, hIz, h1, h2, h3, hbel⟩ := hrel
        have H1 := Hid.mk h1
        have H2 := Hid.mk h2
        have H3 := Hid.mk h3
        clear h1 h2 h3
        by_cases hlk : l < k
        · obtain ⟨d, hd, hrow⟩ : ∃ d, IsId d ∧ y.extract (l * 20) (l * 20 + 20) = d := ⟨_, hI.2 l hlk, rfl⟩
          have q1 : has20 wr g0 (l * 20) := has20_of H2.out hI hlk
          have q2 : row20 wr g0 (l * 20) = d := (row20_of H2.out).trans hrow
          have hds := hd.1
          go_upto_region 20 with fail
          have l0 : (0 : Int) ≤ (l : Int) := by omega
          by_cases hl0 : l = 0
          · have hlb : ((l : Int) == 0) = true := by simp [hl0]
            go_quiet (fail)
            go_wp2_with (at_builtin; refine wpList_append_block _ rfl _ _ 22 rfl 25 25 i0 20 Ybaf.underlying22 hi hz1 g1 q k z rfl (by exact heap_old (heap_old H1.out _) _) (wr.heap.size + 1) 1 1 d rfl (by exact heap_alloc2 _ _ _) (by omega) (by exact isId_one hd) (by omega) (by omega) ?_; intro w3 z3 hb3 hz3 hr3 hk3 hs3 hB3)
            go_roundw
            case rel =>
              refine ⟨l + 1, q + 1, z3, by omega, by omega, by go_num, rfl, by omega, ids_app hIz hd hz3 (by omega) hr3, hb3, ?_, ?_, ?_⟩
              · rw [hk3 _ (by omega)]; exact heap_old (heap_old H2.out _) _
              · rw [hk3 _ (by omega)]; exact heap_old (heap_old H3.out _) _
              · exact ((below_drewN (hbel.alloc hbel.size _) _).alloc (Nat.le_trans hbel.size (by simp)) _).trans (hB3 w.heap.size (by omega))
            case measure => simp [intOf]; omega
          · obtain ⟨l', rfl⟩ : ∃ l', l = l' + 1 := ⟨l - 1, by omega⟩
            have hlb : (((l' + 1 : Nat) : Int) == 0) = false := by simp; omega
            have hlb' : ((l' : Int) + 1 == 0) = false := by simp; omega
            have hw : IntKind.i64.wrap (l' : Int) = (l' : Int) := by rw [IntKind.wrap_i64]; omega
            have lk : (l' : Int) < (k : Int) := by omega
            obtain ⟨d', hd', hrow'⟩ : ∃ d, IsId d ∧ y.extract (l' * 20) (l' * 20 + 20) = d := ⟨_, hI.2 l' (by omega), rfl⟩
            have q3 : has20 wr g0 (l' * 20) := has20_of H2.out hI (by omega)
            have q4 : row20 wr g0 (l' * 20) = d' := (row20_of H2.out).trans hrow'
            cases hsm : sameB d d'
            · have hsm' : (!sameB d d') = true := by simp [hsm]
              go_quiet (fail)
              go_wp2_with (at_builtin; refine wpList_append_block _ rfl _ _ 22 rfl 25 25 i0 20 Ybaf.underlying22 hi hz1 g1 q k z rfl (by exact heap_old (heap_old H1.out _) _) (wr.heap.size + 1) 1 1 d rfl (by exact heap_alloc2 _ _ _) (by omega) (by exact isId_one hd) (by omega) (by omega) ?_; intro w3 z3 hb3 hz3 hr3 hk3 hs3 hB3)
              go_roundw
              case rel =>
                refine ⟨l' + 1 + 1, q + 1, z3, by omega, by omega, by go_num, rfl, by omega, ids_app hIz hd hz3 (by omega) hr3, hb3, ?_, ?_, ?_⟩
                · rw [hk3 _ (by omega)]; exact heap_old (heap_old H2.out _) _
                · rw [hk3 _ (by omega)]; exact heap_old (heap_old H3.out _) _
                · exact ((below_drewN (hbel.alloc hbel.size _) _).alloc (Nat.le_trans hbel.size (by simp)) _).trans (hB3 w.heap.size (by omega))
              case measure => simp [intOf]; omega
            · have hsm' : (!sameB d d') = false := by simp [hsm]
              go_quiet (fail)
              go_wp2_with fail
              go_roundw
              case rel => exact ⟨l' + 1 + 1, q, z, by omega, by omega, by go_num, rfl, hzs, hIz, heap_old H1.out _, heap_old H2.out _, heap_old H3.out _, below_drewN (hbel.alloc hbel.size _) _⟩
              case measure => simp [intOf]; omega
        · obtain rfl : l = k := by omega
          obtain ⟨wv, rfl⟩ : ∃ x, x = wr := ⟨wr, rfl⟩
          have hl1 := lt_of_heap H1.out
          go_upto_region 23 with (at_make; refine wpList_make_block _ rfl _ _ 23 rfl 3 i3 _ 1 Ybaf.underlying23 hi3 hy0 hy1 q q rfl rfl (by omega) (by rw [hy2]; omega) (by unfold maxLen; omega) ?_; intro w2 hA2 hb2 hs2)
          obtain ⟨g2, hg2, hg2'⟩ : ∃ g2, g2 = wv.heap.size ∧ g1 < g2 := ⟨_, rfl, hl1⟩
          have hbel2 : Below w.heap.size w w2 := hbel.trans (hb2.mono hbel.size)
          rw [← hg2] at hA2 ⊢
          have H12 : Hid (w2.heap[g1]? = some (.cells z 25 (0, 0))) := heap_below hb2 H1.out
          have H32 : Hid (w2.heap[w.heap.size]? = some (.cells c 25 (0, 0))) := heap_below hb2 H3.out
          have HA2 := Hid.mk hA2
          clear hA2 hb2 hs2 H1 H2 H3 hbel hl1 hg2
          have hl2 := lt_of_heap HA2.out
          go_wp2_with (at_make; refine wpList_make_block _ rfl _ _ 23 rfl 3 i3 _ 1 Ybaf.underlying23 hi3 hy0 hy1 q q rfl rfl (by omega) (by rw [hy2]; omega) (by unfold maxLen; omega) ?_; intro w3 hA3 hb3 hs3)
          obtain ⟨g3, hg3, hg3'⟩ : ∃ g3, g3 = w2.heap.size ∧ g2 < g3 := ⟨_, rfl, hl2⟩
          have hbel3 : Below w.heap.size w w3 := hbel2.trans (hb3.mono hbel2.size)
          rw [← hg3] at hA3 ⊢
          have H13 : Hid (w3.heap[g1]? = some (.cells z 25 (0, 0))) := heap_below hb3 H12.out
          have H33 : Hid (w3.heap[w.heap.size]? = some (.cells c 25 (0, 0))) := heap_below hb3 H32.out
          have HN3 : Hid (w3.heap[g2]? = some (.cells (madeCells (Value.int .i64 0).cells (q * 1)) 3 (0, 0))) := heap_below hb3 HA2.out
          have HA3 := Hid.mk hA3
          clear hA3 hb3 hs3 H12 H32 HA2 hbel2 hl2 hg3
          go_loopw [115] (fun i wr => ∃ (j : Nat) (x y : Array Value), j ≤ q ∧ i = .int .i64 (j : Int) ∧ Nums x q ∧ Nums y q ∧ wr.heap[g2]? = some (.cells x 3 (0, 0)) ∧ wr.heap[g3]? = some (.cells y 3 (0, 0)) ∧ wr.heap[g1]? = some (.cells z 25 (0, 0)) ∧
              wr.heap[w.heap.size]? = some (.cells c 25 (0, 0)) ∧ Below w.heap.size w wr) (fun i _ => q - (intOf i).toNat)
          case atStart => exact ⟨0, _, _, by omega, rfl, nums_made q, nums_made q, HN3.out, HA3.out, H13.out, H33.out, hbel3⟩
          case round =>
            clear HN3 HA3 H13 H33 hbel3
            obtain ⟨j, x, y', hj, rfl, hx, hy', h1, h2, h3, h4, hbel⟩ := hrel
            by_cases hjq : j < q
            · obtain ⟨x0, hx0⟩ := hx.2 j hjq
              obtain ⟨y0, hy0'⟩ := hy'.2 j hjq
              have e1 := cell_heap h1 hx0
              have e2 := cell_heap h2 hy0'
              have f1 := frozen_heap (o := j) h1
              have f2 := frozen_heap (o := j) h2
              have H1 := Hid.mk h1
              have H2 := Hid.mk h2
              have H3 := Hid.mk h3
              have H4 := Hid.mk h4
              clear h1 h2 h3 h4
              have j0 : (0 : Int) ≤ (j : Int) := by omega
              have j1 : (j : Int) < (q : Int) := by omega
              by_cases hm : m = 0
              · have hmb : decide ((0 : Int) < (m : Int)) = false := by simp [hm]
                go_wp2_with fail
                go_roundw
                case rel =>
                  refine ⟨j + 1, x.setIfInBounds j (.int .i64 (j : Int)), y'.setIfInBounds j (.int .i64 (j : Int)), by omega, by go_num, nums_put hx _, nums_put hy' _, ?_, heap_setCell_same ?_ _, ?_, ?_, (hbel.setCell (by show w.heap.size ≤ g2; omega) _).setCell (by show w.heap.size ≤ g3; omega) _⟩
                  · rw [Below.heap_setCell _ _ _ _ (show g2 ≠ g3 by omega)]; exact heap_setCell_same H1.out _
                  · rw [Below.heap_setCell _ _ _ _ (show g3 ≠ g2 by omega)]; exact H2.out
                  · rw [Below.heap_setCell _ _ _ _ (show g1 ≠ g3 by omega), Below.heap_setCell _ _ _ _ (show g1 ≠ g2 by omega)]; exact H3.out
                  · rw [Below.heap_setCell _ _ _ _ (show w.heap.size ≠ g3 by omega), Below.heap_setCell _ _ _ _ (show w.heap.size ≠ g2 by omega)]; exact H4.out
                case measure => simp [intOf]; omega
              · have hmb : decide ((0 : Int) < (m : Int)) = true := by simp; omega
                have hjm : j % m < m := Nat.mod_lt _ (by omega)
                obtain ⟨a, v, rfl, hv⟩ := HM.out (j % m) hjm
                have e3 := cell_below hbel hv
                have m0 : ((m : Int) == 0) = false := by simp; omega
                have m1 : Int.tmod (j : Int) (m : Int) = ((j % m : Nat) : Int) := by rw [Int.tmod_eq_emod_of_nonneg (by omega)]; rfl
                have m2 : (0 : Int) ≤ ((j % m : Nat) : Int) := by omega
                have m3 : ((j % m : Nat) : Int) < (m : Int) := by omega
                go_wp2_with fail
                go_roundw
                case rel =>
                  refine ⟨j + 1, x.setIfInBounds j (.int .i64 v), y'.setIfInBounds j (.int .i64 (j : Int)), by omega, by go_num, nums_put hx _, nums_put hy' _, ?_, heap_setCell_same ?_ _, ?_, ?_, (hbel.setCell (by show w.heap.size ≤ g2; omega) _).setCell (by show w.heap.size ≤ g3; omega) _⟩
                  · rw [Below.heap_setCell _ _ _ _ (show g2 ≠ g3 by omega)]; exact heap_setCell_same H1.out _
                  · rw [Below.heap_setCell _ _ _ _ (show g3 ≠ g2 by omega)]; exact H2.out
                  · rw [Below.heap_setCell _ _ _ _ (show g1 ≠ g3 by omega), Below.heap_setCell _ _ _ _ (show g1 ≠ g2 by omega)]; exact H3.out
                  · rw [Below.heap_setCell _ _ _ _ (show w.heap.size ≠ g3 by omega), Below.heap_setCell _ _ _ _ (show w.heap.size ≠ g2 by omega)]; exact H4.out
                case measure => simp [intOf]; omega
            · obtain rfl : j = q := by omega
              have H1 := Hid.mk h1
              have H2 := Hid.mk h2
              have H3 := Hid.mk h3
              have H4 := Hid.mk h4
              clear h1 h2 h3 h4
              go_upto_region 33 with fail
              go_cut [145] (fun v wx => v = .bool (decide (sel % 2 = 1) && decide (0 < j)) ∧ wr = wx)
              case first =>
                by_cases hb1 : sel % 2 = 1
                · have hb1' : (sel % 2 == 1) = true := by simp [hb1]
                  by_cases hb2 : 0 < j
                  · have hb2' : decide ((0 : Int) < (j : Int)) = true := by simpa using hb2
                    go_wp2_with fail
                    go_meet
                    exact ⟨by simp [hb1, hb2], rfl⟩
                  · have hb2' : decide ((0 : Int) < (j : Int)) = false := by simpa using hb2
                    go_wp2_with fail
                    go_meet
                    exact ⟨by simp [hb2], rfl⟩
                · have hb1' : (sel % 2 == 1) = false := by simp [hb1]
                  go_wp2_with fail
                  go_meet
                  exact ⟨by simp [hb1], rfl⟩
              case rest =>
                obtain ⟨rfl, rfl⟩ := hcut
                go_upto_if 145 with fail
                go_cut [] (fun wx => ∃ c', IsId c' ∧ wx.heap[g2]? = some (.cells x 3 (0, 0)) ∧ wx.heap[g3]? = some (.cells y' 3 (0, 0)) ∧ wx.heap[g1]? = some (.cells z 25 (0, 0)) ∧ wx.heap[w.heap.size]? = some (.cells c' 25 (0, 0)) ∧ Below w.heap.size w wx)
                case first =>
                  cases hb : (decide (sel % 2 = 1) && decide (0 < j))
                  · go_wp2_with fail
                    go_meet
                    exact ⟨c, hc, H1.out, H2.out, H3.out, H4.out, hbel⟩
                  · have hj0 : 0 < j := by simp at hb; exact hb.2
                    obtain ⟨t, ht⟩ : ∃ t : Nat, (sel / 2).toNat % j = t := ⟨_, rfl⟩
                    have htj : t < j := by rw [← ht]; exact Nat.mod_lt _ hj0
                    have m1 : sel / 2 % (j : Int) = (t : Int) := by
                      rw [← ht, Int.natCast_emod, Int.toNat_of_nonneg (by omega)]
                    have m2 : (0 : Int) ≤ (t : Int) := by omega
                    have m3 : (t : Int) < (j : Int) := by omega
                    obtain ⟨d, hd, hrow⟩ : ∃ d, IsId d ∧ z.extract (t * 20) (t * 20 + 20) = d := ⟨_, hIz.2 t htj, rfl⟩
                    have q1 : has20 wr g1 (t * 20) := has20_of H3.out hIz htj
                    have q2 : row20 wr g1 (t * 20) = d := (row20_of H3.out).trans hrow
                    have q3 := whole_has H4.out hc
                    have q4 := soft_of H4.out
                    clear hrow
                    go_wp2_with fail
                    go_meet
                    obtain ⟨c', hc1, hc2, hc3⟩ := put20_heap (o := 0) H4.out hd.1 (by rw [hcs]; omega)
                    have hcd : c' = d := IsId.ext hd.1 (hc2.trans hcs) (fun j hj => by rw [hc3, if_pos (by omega)]; rfl)
                    subst hcd
                    refine ⟨c', hd, ?_, ?_, ?_, hc1, below_put20 hbel (Nat.le_refl _) _ _⟩
                    · rw [put20_other _ _ _ _ _ (by omega)]; exact H1.out
                    · rw [put20_other _ _ _ _ _ (by omega)]; exact H2.out
                    · rw [put20_other _ _ _ _ _ (by omega)]; exact H3.out
                case rest =>
                  obtain ⟨c', hc', h1, h2, h3, h4, hbelc⟩ := hcut
                  have G1 := Hid.mk h1
                  have G2 := Hid.mk h2
                  have G3 := Hid.mk h3
                  have G4 := Hid.mk h4
                  clear h1 h2 h3 h4 H1 H2 H3 H4 hbel
                  have hl0 := lt_of_heap G2.out
                  go_upto_region 36 with (at_make; refine wpList_make_block _ rfl _ _ 22 rfl 25 i0 _ 20 Ybaf.underlying22 hi hz0 hz1 j j rfl rfl (by omega) (by rw [hz2]; omega) (by unfold maxLen; omega) ?_; intro w2 hA2 hb2 hs2)
                  obtain ⟨g4, hg4, hg4'⟩ : ∃ g, g = wc.heap.size ∧ g3 < g := ⟨_, rfl, hl0⟩
                  have hbel2 : Below w.heap.size w w2 := hbelc.trans (hb2.mono hbelc.size)
                  obtain ⟨w4, hcp, hA4, hk4, hs4, hB4⟩ := copy_from w2 22 22 3 25 i0 g4 g1 j j l _ (z.extract 0 (j * 20)) 25 Ybaf.underlying22 hi (by rw [hg4]; exact hA2)
                    (fun t v hv => cell_heap (heap_below hb2 G3.out) (by rw [Array.getElem?_extract] at hv; split at hv; · rwa [Nat.zero_add] at hv
                                                                         · cases hv)) (by rw [hz1]; exact size_madeCells _ _) (by rw [hz1]; have := hIz.1; simp; omega) (ids_one hIz)
                  have hbel4 : Below w.heap.size w w4 := hbel2.trans (hB4 _ (by omega))
                  rw [← hg4] at ⊢
                  have G14 : Hid (w4.heap[g2]? = some (.cells x 3 (0, 0))) := (hk4 _ (by omega)).trans (heap_below hb2 G1.out)
                  have G24 : Hid (w4.heap[g3]? = some (.cells y' 3 (0, 0))) := (hk4 _ (by omega)).trans (heap_below hb2 G2.out)
                  have G34 : Hid (w4.heap[g1]? = some (.cells z 25 (0, 0))) := (hk4 _ (by omega)).trans (heap_below hb2 G3.out)
                  have G44 : Hid (w4.heap[w.heap.size]? = some (.cells c' 25 (0, 0))) := (hk4 _ (by omega)).trans (heap_below hb2 G4.out)
                  have G54 := Hid.mk hA4
                  clear hA2 hb2 hs2 hA4 hk4 hs4 hB4 G1 G2 G3 G4 hbel2 hbelc hl0 hg4
                  have hl0 := lt_of_heap G54.out
                  go_upto_region 38 with (at_make; refine wpList_make_block _ rfl _ _ 23 rfl 3 i3 _ 1 Ybaf.underlying23 hi3 hy0 hy1 j j rfl rfl (by omega) (by rw [hy2]; omega) (by unfold maxLen; omega) ?_; intro w5 hA5 hb5 hs5)
                  obtain ⟨g5, hg5, hg5'⟩ : ∃ g, g = w4.heap.size ∧ g4 < g := ⟨_, rfl, hl0⟩
                  have hbel5 : Below w.heap.size w w5 := hbel4.trans (hb5.mono hbel4.size)
                  obtain ⟨w6, hcp6, hA6, hk6, hs6, hB6⟩ := copy_from w5 23 23 3 3 i3 g5 g2 j j j _ x 3 Ybaf.underlying23 hi3 (by rw [hg5]; exact hA5)
                    (fun t v hv => cell_heap (heap_below hb5 G14.out) hv) (by rw [hy1]; exact size_madeCells _ _) (by rw [hy1, hx.1]; omega) (nums_one hx)
                  have hbel6 : Below w.heap.size w w6 := hbel5.trans (hB6 _ (by omega))
                  rw [← hg5]
                  have G16 : Hid (w6.heap[g2]? = some (.cells x 3 (0, 0))) := (hk6 _ (by omega)).trans (heap_below hb5 G14.out)
                  have G26 : Hid (w6.heap[g3]? = some (.cells y' 3 (0, 0))) := (hk6 _ (by omega)).trans (heap_below hb5 G24.out)
                  have G36 : Hid (w6.heap[g1]? = some (.cells z 25 (0, 0))) := (hk6 _ (by omega)).trans (heap_below hb5 G34.out)
                  have G46 : Hid (w6.heap[w.heap.size]? = some (.cells c' 25 (0, 0))) := (hk6 _ (by omega)).trans (heap_below hb5 G44.out)
                  have G56 : Hid (w6.heap[g4]? = some (.cells (z.extract 0 (j * 20)) 25 (0, 0))) := (hk6 _ (by omega)).trans (heap_below hb5 G54.out)
                  have G66 := Hid.mk hA6
                  clear hA5 hb5 hs5 hA6 hk6 hs6 hB6 G14 G24 G34 G44 G54 hbel5 hbel4 hl0 hg5 hcp
                  have q1 : ∀ o1 o2 o3, has20 (((w6.alloc o1).alloc o2).alloc o3) w.heap.size 0 := fun o1 o2 o3 => whole_has (heap_old (heap_old (heap_old G46.out o1) o2) o3) hc'
                  have q2 : ∀ o1 o2 o3, row20 (((w6.alloc o1).alloc o2).alloc o3) w.heap.size 0 = c' := fun o1 o2 o3 => whole_row (heap_old (heap_old (heap_old G46.out o1) o2) o3) hc'
                  go_wp2_with fail
                  refine (nodeName_any F (w6.heap.size + 2) (w6.heap.size + 1) w6.heap.size g1 j l g2 z x c' hc' hIz (by omega) hx.2 _ ?_ ?_ ?_ ?_ ?_ ?_ ?_).mono ?_
                  · show F.answers w6.tape
                    rw [hbel6.tape]; exact HF.out
                  · exact cell_heap (heap_alloc3 _ _ _ _) rfl
                  · exact cell_heap (heap_old (heap_alloc2 _ _ _) _) (y48_at _)
                  · exact cell_heap (heap_old (heap_alloc1 _ _ _) _) rfl
                  · exact cell_heap (heap_old (heap_alloc1 _ _ _) _) rfl
                  · exact heap_old (heap_old (heap_old G36.out _) _) _
                  · exact heap_old (heap_old (heap_old G16.out _) _) _
                  rintro e w7 ⟨got, rfl, hgot, hb7⟩
                  have hbA := (((Below.refl w6.heap.size w6).alloc (Nat.le_refl _) (.cells #[.slice (some ⟨g1, 0, none⟩) j l, .slice (some ⟨g2, 0, none⟩) j j, .slice (some ⟨g3, 0, none⟩) j j] 31)).alloc (by simp) (.cells (y48 (some ⟨w6.heap.size, 0, none⟩)) 48))
                  have hb67 : Below w6.heap.size w6 w7 := (hbA.alloc (by simp; omega) _).trans (hb7.mono (by simp; omega))
                  have hbel7 : Below w.heap.size w w7 := hbel6.trans (hb67.mono hbel6.size)
                  have G17 : Hid (w7.heap[g2]? = some (.cells x 3 (0, 0))) := heap_below hb67 G16.out
                  have G37 : Hid (w7.heap[g1]? = some (.cells z 25 (0, 0))) := heap_below hb67 G36.out
                  have G47 : Hid (w7.heap[w.heap.size]? = some (.cells c' 25 (0, 0))) := heap_below hb67 G46.out
                  have G57 : Hid (w7.heap[g4]? = some (.cells (z.extract 0 (j * 20)) 25 (0, 0))) := heap_below hb67 G56.out
                  have G67 : Hid (w7.heap[g5]? = some (.cells x 3 (0, 0))) := heap_below hb67 G66.out
                  clear hbA hb7 hb67 G16 G26 G36 G46 G56 G66 hbel6 q1 q2 hcp6
                  go_wp2_with fail
                  go_loopw [181] (fun i wr => ∃ (k : Nat), k ≤ j ∧ i = .int .i64 (k : Int) ∧ wr.heap[g2]? = some (.cells x 3 (0, 0)) ∧ wr.heap[g5]? = some (.cells x 3 (0, 0)) ∧ wr.heap[g1]? = some (.cells z 25 (0, 0)) ∧ wr.heap[g4]? = some (.cells (z.extract 0 (j * 20)) 25 (0, 0)) ∧
                      wr.heap[w.heap.size]? = some (.cells c' 25 (0, 0)) ∧ Below w.heap.size w wr) (fun i _ => j - (intOf i).toNat)
                  case atStart => exact ⟨0, by omega, rfl, G17.out, G67.out, G37.out, G57.out, G47.out, hbel7⟩
                  case round =>
                    clear G17 G37 G47 G57 G67 hbel7
                    obtain ⟨k, hkj, rfl, h1, h2, h3, h4, h5, hbel⟩ := hrel
                    by_cases hkl : k < j
                    · obtain ⟨d, hd, hrow⟩ : ∃ d, IsId d ∧ z.extract (k * 20) (k * 20 + 20) = d := ⟨_, hIz.2 k hkl, rfl⟩
                      obtain ⟨v, hv⟩ := hx.2 k hkl
                      have q1 : has20 wr g1 (k * 20) := has20_of h3 hIz hkl
                      have q2 : row20 wr g1 (k * 20) = d := (row20_of h3).trans hrow
                      have q3 : has20 wr g4 (k * 20) := has20_of h4 (ids_copy hIz) hkl
                      have q4 : row20 wr g4 (k * 20) = d := (row20_of h4).trans ((row_copy hkl).trans hrow)
                      have e1 := cell_heap h1 hv
                      have e2 := cell_heap h2 hv
                      have hsm := sameB_self d
                      have k0 : (0 : Int) ≤ (k : Int) := by omega
                      have k1 : (k : Int) < (j : Int) := by omega
                      have H1 := Hid.mk h1
                      have H2 := Hid.mk h2
                      have H3 := Hid.mk h3
                      have H4 := Hid.mk h4
                      have H5 := Hid.mk h5
                      clear h1 h2 h3 h4 h5 hrow
                      go_wp2_with fail
                      go_quiet (fail)
                      go_wp2_with fail
                      go_roundw
                      case rel => exact ⟨k + 1, by omega, by go_num, H1.out, H2.out, H3.out, H4.out, H5.out, below_drewN hbel _⟩
                      case measure => simp [intOf]; omega
                    · obtain rfl : k = j := by omega
                      obtain ⟨wv, rfl⟩ : ∃ x, x = wr := ⟨wr, rfl⟩
                      have H3 := Hid.mk h3
                      have H5 := Hid.mk h5
                      clear h1 h2 h3 h4 h5
                      go_wp2_with fail
                      go_loopw [26, 207] (fun f i wr => ∃ (t : Nat) (b : Bool), t ≤ k ∧ i = .int .i64 (t : Int) ∧ f = .bool b ∧ (b = false → ∀ u, u < t → sameB (z.extract (u * 20) (u * 20 + 20)) c' = false) ∧ wr.heap[g1]? = some (.cells z 25 (0, 0)) ∧
                          wr.heap[w.heap.size]? = some (.cells c' 25 (0, 0)) ∧ Below w.heap.size w wr) (fun _ i _ => k - (intOf i).toNat)
                      case atStart => exact ⟨0, false, by omega, rfl, rfl, fun _ u hu => absurd hu (Nat.not_lt_zero _), H3.out, H5.out, hbel⟩
                      case round =>
                        clear H3 H5 hbel
                        obtain ⟨t, b, htk, rfl, rfl, hb, h1, h2, hbel⟩ := hrel
                        have q3 := whole_has h2 hc'
                        have q4 := whole_row h2 hc'
                        have H1 := Hid.mk h1
                        have H2 := Hid.mk h2
                        clear h1 h2
                        have HB := Hid.mk hb
                        clear hb
                        by_cases htl : t < k
                        · obtain ⟨d, hd, hrow⟩ : ∃ d, IsId d ∧ z.extract (t * 20) (t * 20 + 20) = d := ⟨_, hIz.2 t htl, rfl⟩
                          have hds := hd.1
                          have q1 : has20 wr g1 (t * 20) := has20_of H1.out hIz htl
                          have q2 : row20 wr g1 (t * 20) = d := (row20_of H1.out).trans hrow
                          have HR2 := Hid.mk hrow
                          clear hrow
                          cases hsm : sameB d c'
                          · go_wp2_with fail
                            go_roundw
                            case rel =>
                              refine ⟨t + 1, b, by omega, by go_num, rfl, fun hb u hu => ?_, heap_old H1.out _, heap_old H2.out _, hbel.alloc hbel.size _⟩
                              by_cases hut : u = t
                              · subst hut; rw [HR2.out]; exact hsm
                              · exact HB.out hb u (by omega)
                            case measure => simp [intOf]; omega
                          · go_wp2_with fail
                            go_roundw
                            case rel => exact ⟨t + 1, true, by omega, by go_num, rfl, fun hb => (by cases hb), heap_old H1.out _, heap_old H2.out _, hbel.alloc hbel.size _⟩
                            case measure => simp [intOf]; omega
                        · obtain rfl : t = k := by omega
                          cases b
                          · have hg := hgot (HB.out rfl)
                            subst hg
                            go_wp2_with fail
                            refine (hex_any c' hc' _).mono ?_
                            rintro e w9 ⟨rfl, hb9⟩
                            go_wp2_with fail
                            go_ret
                            exact ⟨rfl, hbel.trans (hb9.mono hbel.size)⟩
                          · go_wp2_with fail
                            go_ret
                            exact ⟨rfl, hbel⟩
end Go.Proofs.YbulkdzhaFmt
