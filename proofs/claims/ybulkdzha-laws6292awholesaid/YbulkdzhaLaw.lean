/-
  THE LAW S6292A, at no more than 65,536 gaps.
-/
import Derived.Test.YbulkdzhaAll
namespace Go.Proofs.Ybulkdzha
open Go Go.RowKit
attribute [local go_sem ↓] loadAt25 storeAt25 loadAt38 storeAt38 equalIn38 buildSlice27 buildSlice28 build41 build71 loadAt41 storeAt41 equalIn41
attribute [local go_sem] run_load25 run_store25 run_eq25 guard25 has20_drew has20_drewN row20_drew row20_drewN soft_drew soft_drewN run_load38 run_store38 run_eq38 guard38 has6_drew has6_drewN row6_drew row6_drewN run_bs27 run_bs28 run_bd41 run_load41 run_st41_new run_st38_new has21_drew has21_drewN row21_drew row21_drewN guard41 run_eq41

theorem Came.below {k : IntKind} {w w' : World} {a0 : Option Addr} {zs : List Int} (h : Came k w a0 zs) (hb : Below w.heap.size w w') : Came k w' a0 zs := by
  rcases h with h | ⟨a, h1, h2⟩
  · exact .inl h
  · exact .inr ⟨a, h1, fun j hj => cell_below hb (h2 j hj)⟩
/-- The key behind which the next one goes. -/
def prevKey (gs : List Int) : Nat → Nat
  | 0 => 0
  | k + 1 => key gs k

theorem info22' : (Yba.prog.info? 22).map (fun i => (i.zero, i.size, i.bytes)) = some (some (.int .u32 0), 1, 4) := by kernel_rfl

set_option maxRecDepth 100000 in
set_option maxHeartbeats 4000000 in
theorem law_any (self pk n cg cs ca : Nat) (a0 b0 c0 : Option Addr) (gs ss us : List Int) (pad seen : Int) (al : Bool) (w : World) (hself : self < 4294967296) (hpk : pk < 4294967296) (hgl : gs.length = n) (hn : n ≤ 65536)
    (hg : Came .u8 w a0 gs) (hs : Came .i64 w b0 ss) (ha : Came .i64 w c0 us) (hr : ∀ j, 0 ≤ gs.getD j 0 ∧ gs.getD j 0 ≤ 255) :
    Calls Yba.prog 3 #[.int .u32 self, .slice a0 n cg, .slice b0 ss.length cs, .slice c0 us.length ca, .int .u32 pk, .int .i64 pad, .int .i64 seen, .bool al] w fun e w' => e = .returned (.bool true) ∧ Below w.heap.size w w' := by
  have HE : Hid (∀ (i : Nat) (wx : World), i < n → Below w.heap.size w wx → Calls Yba.prog 5 #[.int .i64 i, .slice a0 n cg, .slice b0 ss.length cs, .slice c0 us.length ca] wx fun e w' => e = .returned (.agg (entOf gs ss us i)) ∧ Below wx.heap.size wx w') := fun i wx hi hb => by
    subst hgl
    exact entry_any i cg cs ca a0 b0 c0 gs ss us wx hi (by omega) (hg.below hb) (hs.below hb) (ha.below hb) hr
  have HGAP : Hid (∀ (i : Nat) (wx : World), i < n → Below w.heap.size w wx → ∃ (a : Addr) (g : Int), a0 = some a ∧ wx.cell? (a.add i) = some (.int .u8 g) ∧ gs.getD i 0 = g ∧ 0 ≤ g ∧ g ≤ 255) := fun i wx hi hb => by
    obtain ⟨a, h1, h2⟩ := (hg.below hb).at (show i < gs.length by omega)
    exact ⟨a, _, h1, h2, rfl, (hr i).1, (hr i).2⟩
  have HKB : Hid (∀ i, i < n → key gs i < 16777472) := fun i hi => by have := key_le gs hr i; omega
  clear hg hs ha hr hgl
  obtain ⟨i2, hi2, hx0, hx1, hx2⟩ := info_parts info22'
  obtain ⟨i3, hi3, hy0, hy1, hy2⟩ := info_parts info30'
  obtain ⟨i8, hi8, hz0, hz1, hz2⟩ := info_parts info38'
  obtain ⟨N, hN, run_bd71⟩ := node_cells
  have hnle : decide ((65536 : Int) < (n : Int)) = false := by simp; omega
  have hnle' : ¬ ((65536 : Int) < (n : Int)) := by omega
  go_enter Yba.func3, Yba.ntmps3
  go_wp2_with (at_make; refine wpList_make_block _ rfl _ _ 26 rfl 22 i2 _ 1 Yba.underlying26 hi2 hx0 hx1 n n rfl rfl (by omega) (by rw [hx2]; omega) (by unfold maxLen; omega) ?_; intro w1 hA1 hb1 hs1)
  go_loopw [19, 20] (fun v i wr => ∃ (k : Nat) (X : Array Value), k ≤ n ∧ i = .int .i64 (k : Int) ∧ v = .int .u32 (prevKey gs k : Int) ∧ X.size = n ∧ (∀ j, j < k → X[j]? = some (.int .u32 (key gs j : Int))) ∧ wr.heap[w.heap.size]? = some (.cells X 22 (0, 0)) ∧ wr.heap.size = w.heap.size + 1 ∧ Below w.heap.size w wr) (fun _ i _ => n - (intOf i).toNat)
  case atStart => exact ⟨0, _, by omega, rfl, rfl, by rw [size_madeCells]; omega, fun j hj => absurd hj (Nat.not_lt_zero _), hA1, by omega, hb1⟩
  case round =>
    clear hA1 hb1 hs1 hnle hnle'
    obtain ⟨k, X, hk, rfl, rfl, hX, hXr, hX1, hsz, hbel⟩ := hrel
    have HX := Hid.mk hX1
    have HXR := Hid.mk hXr
    clear hX1 hXr
    by_cases hlt : k < n
    · --[[1
      obtain ⟨a, g, rfl, hca, hge, g0, g1⟩ := HGAP.out k wr hlt hbel
      have hkk := HKB.out k hlt
      have f1 := frozen_heap (o := k) HX.out
      obtain ⟨x0, hx0c⟩ : ∃ x, wr.cell? ⟨w.heap.size, k, none⟩ = some x := ⟨_, cell_heap HX.out (Array.getElem?_eq_getElem (by omega))⟩
      have k1 : (k : Int) < (n : Int) := by omega
      have k0 : (0 : Int) ≤ (k : Int) := by omega
      have hw32 : IntKind.u32.wrap g = g := by simp [IntKind.wrap, IntKind.bits, IntKind.signed]; omega
      have fin : ∀ (q : Int), q = (key gs k : Int) → ∃ (k' : Nat) (X' : Array Value), k' ≤ n ∧ Value.int .i64 ((k : Int) + 1) = .int .i64 (k' : Int) ∧ Value.int .u32 q = .int .u32 (prevKey gs k' : Int) ∧ X'.size = n ∧ (∀ j, j < k' → X'[j]? = some (.int .u32 (key gs j : Int))) ∧
          (wr.setCell ⟨w.heap.size, k, none⟩ (.int .u32 q)).heap[w.heap.size]? = some (.cells X' 22 (0, 0)) ∧ (wr.setCell ⟨w.heap.size, k, none⟩ (.int .u32 q)).heap.size = w.heap.size + 1 ∧ Below w.heap.size w (wr.setCell ⟨w.heap.size, k, none⟩ (.int .u32 q)) := fun q hq => by
        refine ⟨k + 1, _, by omega, by go_num, by rw [hq]; rfl, ?_, fun j hj => ?_, heap_setCell_same HX.out _, by simp [World.setCell]; exact hsz, hbel.setCell (Nat.le_refl _) _⟩
        · simp [hX]
        · rw [Array.getElem?_setIfInBounds]
          by_cases hjk : k = j
          · subst hjk; rw [if_pos rfl, if_pos (by omega), hq]
          · rw [if_neg hjk]; exact HXR.out j (by omega)
      have HFIN := Hid.mk fin
      clear fin
      by_cases hk0 : k = 0
      · subst hk0
        have hkey : (key gs 0 : Int) = g := by simp only [key, hge]; omega
        have hca0 : wr.cell? a = some (.int .u8 g) := by have h := hca; rwa [show a.add 0 = a by simp [Addr.add]] at h
        go_wp2_with fail
        go_roundw
        case rel => exact HFIN.out g hkey.symm
        case measure => simp [intOf]; omega
      · have hkb : ((k : Int) == 0) = false := by simp; omega
        obtain ⟨q, hq⟩ : ∃ q, prevKey gs k = q := ⟨_, rfl⟩
        have hkey : (key gs k : Int) = (q : Int) + (g + 1) := by
          obtain ⟨k', rfl⟩ : ∃ k', k = k' + 1 := ⟨k - 1, by omega⟩
          rw [← hq]
          simp only [key, hge, prevKey]; omega
        have hw1 : IntKind.u32.wrap (g + 1) = g + 1 := by simp [IntKind.wrap, IntKind.bits, IntKind.signed]; omega
        have hw2 : IntKind.u32.wrap ((q : Int) + (g + 1)) = (q : Int) + (g + 1) := by simp [IntKind.wrap, IntKind.bits, IntKind.signed]; omega
        rw [hq]
        go_wp2_with fail
        go_roundw
        case rel => exact HFIN.out _ hkey.symm
        case measure => simp [intOf]; omega
      --]]1
    · obtain rfl : k = n := by omega
      clear hlt
      go_wp2_with (first
        | (at_make; refine wpList_make_block _ rfl _ _ 27 rfl 30 i3 _ 20 Yba.underlying27 hi3 hy0 hy1 k k rfl rfl (by omega) (by rw [hy2]; omega) (by unfold maxLen; omega) ?_; intro w2 hA2 hb2 hs2)
        | (at_make; refine wpList_make_block _ rfl _ _ 28 rfl 38 i8 _ 6 Yba.underlying28 hi8 hz0 hz1 k k rfl rfl (by omega) (by rw [hz2]; omega) (by unfold maxLen; omega) ?_; intro w3 hA3 hb3 hs3))
      obtain ⟨Z2, hZ2, hA2'⟩ : ∃ z : Array Value, z.size = k * 20 ∧ w2.heap[w.heap.size + 1]? = some (.cells z 30 (0, 0)) := ⟨_, size_madeCells _ _, by first | exact hA2 | (rw [← hsz]; exact hA2)⟩
      have hs2' : w2.heap.size = w.heap.size + 2 := by omega
      obtain ⟨Z3, hZ3, hA3'⟩ : ∃ z : Array Value, z.size = k * 6 ∧ w3.heap[w.heap.size + 2]? = some (.cells z 38 (0, 0)) := ⟨_, size_madeCells _ _, by first | exact hA3 | (rw [← hs2']; exact hA3)⟩
      rw [show w.heap.size + 1 + 1 = w.heap.size + 2 from rfl]
      have HX3 : Hid (w3.heap[w.heap.size]? = some (.cells X 22 (0, 0))) := heap_below hb3 (heap_below hb2 HX.out)
      have HA3 := heap_below hb3 hA2'
      have hbel3 : Below w.heap.size w w3 := hbel.trans ((hb2.trans (hb3.mono (by omega))).mono (by omega))
      have hs3' : w3.heap.size = w.heap.size + 3 := by omega
      clear hA2 hA2' hb2 hs2 hs2' hb3 hs3 hA3 hbel hsz HX
      obtain ⟨wq, rfl⟩ : ∃ x, x = wr := ⟨wr, rfl⟩
      go_loopw [23] (fun i wr => ∃ (j : Nat) (A C : Array Value), j ≤ k ∧ i = .int .i64 (j : Int) ∧ wr.heap[w.heap.size]? = some (.cells X 22 (0, 0)) ∧ A.size = k * 20 ∧ Rows 20 A j (idsOf gs) ∧ wr.heap[w.heap.size + 1]? = some (.cells A 30 (0, 0)) ∧
        C.size = k * 6 ∧ Rows 6 C j (entOf gs ss us) ∧ wr.heap[w.heap.size + 2]? = some (.cells C 38 (0, 0)) ∧ w.heap.size + 3 ≤ wr.heap.size ∧ Below w.heap.size w wr) (fun i _ => k - (intOf i).toNat)
      case atStart => exact ⟨0, _, _, by omega, rfl, HX3.out, hZ2, Rows.zero _ _ _, HA3, hZ3, Rows.zero _ _ _, hA3', by omega, hbel3⟩
      case round =>
        clear HA3 hA3' HX3 hbel3 hs3'
        obtain ⟨j, A, C, hj, rfl, hX3, hA, hAr, hA3, hC, hCr, hC3, hsz, hbel⟩ := hrel
        have HX := Hid.mk hX3
        have HA := Hid.mk hA3
        have HC := Hid.mk hC3
        clear hX3 hA3 hC3
        by_cases hlt : j < k
        · --[[2
          have hkj := HKB.out j hlt
          have hkj32 : key gs j < 4294967296 := by omega
          have e1 := cell_heap HX.out (HXR.out j hlt)
          have j1 : (j : Int) < (k : Int) := by omega
          have j0 : (0 : Int) ≤ (j : Int) := by omega
          obtain ⟨q, hq⟩ : ∃ q, key gs j = q := ⟨_, rfl⟩
          rw [hq] at e1 hkj32
          have hid := idv_isId q hkj32
          go_wp2_with fail
          refine (id_any q hkj32 _).mono ?_
          rintro e w4 ⟨rfl, hb4⟩
          have q1 : has20 w4 (w.heap.size + 1) (j * 20) := by unfold has20; rw [blk_of (heap_below hb4 HA.out)]; omega
          have q2 : soft w4 (w.heap.size + 1) := soft_of (heap_below hb4 HA.out)
          obtain ⟨A', hA1, hA2, hA3⟩ := put20_heap (o := j * 20) (heap_below hb4 HA.out) hid.1 (by omega)
          have hAr' : Rows 20 A' (j + 1) (idsOf gs) := hAr.put (by omega) hA2 (fun i => by rw [hA3 i]; unfold idsOf; rw [hq])
          have hx4 := (put20_other w4 (w.heap.size + 1) (j * 20) (idv q) w.heap.size (by omega)).trans (heap_below hb4 HX.out)
          have hc4 := (put20_other w4 (w.heap.size + 1) (j * 20) (idv q) (w.heap.size + 2) (by omega)).trans (heap_below hb4 HC.out)
          have hbel4 : Below w.heap.size w (put20 w4 (w.heap.size + 1) (j * 20) (idv q)) := below_put20 (hbel.trans (hb4.mono hbel.size)) (by omega) _ _
          have hsz4 : w.heap.size + 3 ≤ (put20 w4 (w.heap.size + 1) (j * 20) (idv q)).heap.size := by rw [put20_size]; exact Nat.le_trans hsz hb4.size
          have HA1 := Hid.mk hA1
          have HX4 := Hid.mk hx4
          have HC4 := Hid.mk hc4
          have HBL := Hid.mk hbel4
          have HSZ := Hid.mk hsz4
          have hA2' : A'.size = k * 20 := by omega
          clear hA1 hA3 hx4 hc4 hbel4 hsz4 hb4 HX HA HC hAr hA2 hA
          go_wp2_with fail
          refine (HE.out j _ hlt HBL.out).mono ?_
          rintro e w6 ⟨rfl, hb6⟩
          have hent : IsEnt (entOf gs ss us j) := ent_is _ _ _ _
          obtain ⟨E, hE⟩ : ∃ E, entOf gs ss us j = E := ⟨_, rfl⟩
          rw [hE] at hent ⊢
          have p1 : has6 w6 (w.heap.size + 2) (j * 6) := has6_of (heap_below hb6 HC4.out) (by omega)
          have p2 : soft w6 (w.heap.size + 2) := soft_of (heap_below hb6 HC4.out)
          obtain ⟨C', hC1, hC2, hC3⟩ := put6_heap (o := j * 6) (heap_below hb6 HC4.out) hent.size (by omega)
          have hCr' : Rows 6 C' (j + 1) (entOf gs ss us) := hCr.put (by omega) hC2 (fun i => by rw [hC3 i, hE])
          have hx6 := (put6_other w6 (w.heap.size + 2) (j * 6) E w.heap.size (by omega)).trans (heap_below hb6 HX4.out)
          have ha6 := (put6_other w6 (w.heap.size + 2) (j * 6) E (w.heap.size + 1) (by omega)).trans (heap_below hb6 HA1.out)
          have hbel6 : Below w.heap.size w (put6 w6 (w.heap.size + 2) (j * 6) E) := below_put6 (HBL.out.trans (hb6.mono HBL.out.size)) (by omega) _ _
          have hsz6 : w.heap.size + 3 ≤ (put6 w6 (w.heap.size + 2) (j * 6) E).heap.size := by rw [put6_size]; exact Nat.le_trans HSZ.out hb6.size
          have HF : Hid (∃ (j' : Nat) (A C : Array Value), j' ≤ k ∧ Value.int .i64 ((j : Int) + 1) = .int .i64 (j' : Int) ∧ (put6 w6 (w.heap.size + 2) (j * 6) E).heap[w.heap.size]? = some (.cells X 22 (0, 0)) ∧ A.size = k * 20 ∧ Rows 20 A j' (idsOf gs) ∧ (put6 w6 (w.heap.size + 2) (j * 6) E).heap[w.heap.size + 1]? = some (.cells A 30 (0, 0)) ∧
              C.size = k * 6 ∧ Rows 6 C j' (entOf gs ss us) ∧ (put6 w6 (w.heap.size + 2) (j * 6) E).heap[w.heap.size + 2]? = some (.cells C 38 (0, 0)) ∧ w.heap.size + 3 ≤ (put6 w6 (w.heap.size + 2) (j * 6) E).heap.size ∧ Below w.heap.size w (put6 w6 (w.heap.size + 2) (j * 6) E)) :=
            ⟨j + 1, A', C', by omega, by go_num, hx6, hA2', hAr', ha6, by omega, hCr', hC1, hsz6, hbel6⟩
          clear hC1 hC3 hx6 ha6 hbel6 hsz6 hb6 hCr' hCr hAr' HA1 HX4 HC4 HBL HSZ
          go_wp2_with fail
          go_roundw
          case rel => exact HF.out
          case measure => simp [intOf]; omega
          --]]2
        · obtain rfl : j = k := by omega
          clear hlt
          have hid := idv_isId self hself
          have hid2 := idv_isId pk hpk
          go_wp2_with fail
          refine (id_any self hself _).mono ?_
          rintro e w4 ⟨rfl, hb4⟩
          have hld : (ld41 (.pointer (some ⟨w4.heap.size, 0, none⟩))).run Yba.prog (w4.alloc (.cells (peer self 7) 41)) = .ok (.agg (peer self 7)) (w4.alloc (.cells (peer self 7) 41)) := by
            have hb := heap_alloc_new w4 (.cells (peer self 7) 41)
            rw [run_load41 _ _ _ (by unfold has21; rw [blk_of hb]; exact Nat.le_refl _)]
            unfold row21
            rw [blk_of hb]
            simp [← peer_size self 7]
          go_wp2_with fail
          refine (id_any pk hpk _).mono ?_
          rintro e w6 ⟨rfl, hb6⟩
          obtain ⟨N6, hN6⟩ : ∃ N6, N6 = N self 7 (.slice (some ⟨w.heap.size + 1, 0, none⟩) j j) (.slice (some ⟨w.heap.size + 2, 0, none⟩) j j) al := ⟨_, rfl⟩
          have hNn : IsNode N6 self (.slice (some ⟨w.heap.size + 1, 0, none⟩) j j) (.slice (some ⟨w.heap.size + 2, 0, none⟩) j j) al := by rw [hN6]; exact (hN _ _ _ _ _ _ _ _ _).1
          have hNp : N6.extract 0 21 = peer self 7 := by rw [hN6]; exact (hN _ _ _ _ _ _ _ _ _).2
          rw [← hN6] at hb6
          have hb46 : Below w4.heap.size w4 w6 := (((Below.refl _ _).alloc (Nat.le_refl _) _).alloc (by simp) _).trans (hb6.mono (by simp; omega))
          have hP6 : Hid (w6.heap[w4.heap.size + 1]? = some (.cells N6 71 (0, 0))) := heap_below hb6 (heap_alloc2 _ _ _)
          have hS6 : Hid (w6.heap[w4.heap.size]? = some (.cells (peer self 7) 41 (0, 0))) := heap_below hb6 (heap_alloc1 _ _ _)
          have hX6 : Hid (w6.heap[w.heap.size]? = some (.cells X 22 (0, 0))) := heap_below hb46 (heap_below hb4 HX.out)
          have hA6 : Hid (w6.heap[w.heap.size + 1]? = some (.cells A 30 (0, 0))) := heap_below hb46 (heap_below hb4 HA.out)
          have hC6 : Hid (w6.heap[w.heap.size + 2]? = some (.cells C 38 (0, 0))) := heap_below hb46 (heap_below hb4 HC.out)
          have hsz4 : w.heap.size + 3 ≤ w4.heap.size := Nat.le_trans hsz hb4.size
          have hbel6 : Below w.heap.size w w6 := (hbel.trans (hb4.mono hbel.size)).trans (hb46.mono (by omega))
          obtain ⟨SP, hSP⟩ : ∃ SP, w4.heap.size = SP := ⟨_, rfl⟩
          rw [hSP] at hP6 hS6 hsz4 ⊢
          clear hb6 hb46 hld hN6 hN run_bd71 HX HA HC hbel hb4 hSP hsz
          go_wp2_with fail
          refine (learn_all (SP + 1) pk self (w.heap.size + 1) (w.heap.size + 2) j pad seen N6 A C gs ss us al _ hpk hself hn (fun i hi => Nat.lt_trans (HKB.out i hi) (by omega)) hNn hNp hP6.out hA hAr hA6.out hC hCr hC6.out (by omega) (by omega) (by omega)).mono ?_
          rintro e w7 ⟨got, n7, al7, R7, E7, N7, A7, C7, g7, c7, h7, d7, rfl, hway, haf, hsz7, hk7, hB7⟩
          have hX7 : Hid (w7.heap[w.heap.size]? = some (.cells X 22 (0, 0))) := (hk7 _ (lt_of_heap hX6.out) (by omega) (by omega)).trans hX6.out
          have hS7 : w7.heap[SP]? = some (.cells (peer self 7) 41 (0, 0)) := (hk7 _ (lt_of_heap hS6.out) (by omega) (by omega)).trans hS6.out
          have hbel7 : Below w.heap.size w w7 := hbel6.trans (hB7 _ (by omega) (by omega) hbel6.size)
          have hsz7' := hbel7.size
          have HW := Hid.mk hway
          have HAF := Hid.mk haf
          have s7 := (Array.getElem?_eq_some_iff.1 haf.alone).1
          have r1 : has21 w7 (SP + 1) 0 := by unfold has21; rw [blk_of haf.node]; omega
          have r2 : row21 w7 (SP + 1) 0 = peer self 7 := by unfold row21; rw [blk_of haf.node]; exact haf.self
          have r3 : has21 w7 SP 0 := by unfold has21; rw [blk_of hS7]; exact Nat.le_refl _
          have r4 : row21 w7 SP 0 = peer self 7 := by unfold row21; rw [blk_of hS7]; simp [← peer_size self 7]
          clear hway haf hk7 hB7 hX6 hS6 hP6 hA6 hC6 hbel6 hNn hNp hS7 hsz7 s7 hA hAr hC hCr
          go_wp2_with fail
          go_quiet (fail)
          have hwn : IntKind.i64.wrap ((j : Int) + 1) = (j : Int) + 1 := by rw [IntKind.wrap_i64]; omega
          have hcn : ((j + 1 : Nat) : Int) = (j : Int) + 1 := by omega
          go_upto_if 119 with (first
            | (at_make; refine wpList_make_block _ rfl _ _ 27 rfl 30 i3 _ 20 Yba.underlying27 hi3 hy0 hy1 0 (j + 1) rfl rfl (by omega) (by rw [hy2]; omega) (by unfold maxLen; omega) ?_; intro w8 hA8 hb8 hs8)
            | (at_make; refine wpList_make_block _ rfl _ _ 28 rfl 38 i8 _ 6 Yba.underlying28 hi8 hz0 hz1 0 (j + 1) rfl rfl (by omega) (by rw [hz2]; omega) (by unfold maxLen; omega) ?_; intro w9 hA9 hb9 hs9))
          obtain ⟨B, hB⟩ : ∃ B, w7.heap.size = B := ⟨_, rfl⟩
          have hs8' : w8.heap.size = B + 1 := by rw [hs8, ← hB]; rfl
          obtain ⟨Z8, hZ8, hA8'⟩ : ∃ z : Array Value, z.size = (j + 1) * 20 ∧ w9.heap[B]? = some (.cells z 30 (0, 0)) := ⟨_, size_madeCells _ _, by rw [← hB]; exact heap_below hb9 hA8⟩
          obtain ⟨Z9, hZ9, hA9'⟩ : ∃ z : Array Value, z.size = (j + 1) * 6 ∧ w9.heap[B + 1]? = some (.cells z 38 (0, 0)) := ⟨_, size_madeCells _ _, by rw [← hs8']; exact hA9⟩
          have HB9 : Hid (Below B w7 w9) := by rw [← hB]; exact (below_drewN (Below.refl _ _) nq).trans (hb8.trans (hb9.mono (by rw [hs8]; exact Nat.le_succ _)))
          have hlB : ∀ {b : Nat} {x : Obj}, w7.heap[b]? = some x → b < B := fun h => hB ▸ lt_of_heap h
          have HS9 : Hid (w9.heap.size = B + 2) := by show _ = _; omega
          have HBW : Hid (Below w.heap.size w w9 ∧ w.heap.size ≤ B) := ⟨hbel7.trans (HB9.out.mono (by omega)), by omega⟩
          rw [hB]
          clear hA8 hb8 hs8 hA9 hb9 hs9 hs8' r1 r2 r3 r4 hbel7 hsz7' hB
          have HX9 : Hid (∀ wx, Below B w7 wx → wx.heap[w.heap.size]? = some (.cells X 22 (0, 0))) := fun wx hb => (hb.block _ (hlB hX7.out)).trans hX7.out
          rcases HW.out with ⟨rfl, rfl, rfl, rfl, rfl, rfl⟩ | ⟨hps, k7, hk7, hku, rfl, rfl, rfl, rfl, rfl⟩ | ⟨hps, k7, hk7, hlo, hhi, rfl, rfl, rfl, rfl, rfl⟩
          · --[[A
            have hpp : ((pk : Int) == (pk : Int)) = true := by simp
            rw [hpp]
            clear hpp
            go_wp2_with fail
            go_loopw [27, 28, 29] (fun a b i wr => ∃ (m : Nat) (D E : Array Value), m ≤ n7 ∧ i = .int .i64 (m : Int) ∧ a = .slice (some ⟨B, 0, none⟩) m (n7 + 1) ∧ b = .slice (some ⟨B + 1, 0, none⟩) m (n7 + 1) ∧ D.size = (n7 + 1) * 20 ∧ Rows 20 D m (idsOf gs) ∧ wr.heap[B]? = some (.cells D 30 (0, 0)) ∧
              E.size = (n7 + 1) * 6 ∧ Rows 6 E m (entOf gs ss us) ∧ wr.heap[B + 1]? = some (.cells E 38 (0, 0)) ∧ Below B w7 wr ∧ Below w.heap.size w wr) (fun _ _ i _ => n7 - (intOf i).toNat)
            case atStart => exact ⟨0, Z8, Z9, by omega, rfl, rfl, rfl, hZ8, Rows.zero _ _ _, hA8', hZ9, Rows.zero _ _ _, hA9', HB9.out, HBW.out.1⟩
            case round =>
              clear hA8' hA9' HB9 hZ8 hZ9 HS9
              have hwB := HBW.out.2
              clear HBW
              obtain ⟨m, D, E, hm, rfl, rfl, rfl, hD, hDr, hD3, hE, hEr, hE3, hb7, hbel⟩ := hrel
              have HD := Hid.mk hD3
              have HEE := Hid.mk hE3
              clear hD3 hE3
              by_cases hlt : m < n7
              · --[[A1
                have hkj := HKB.out m hlt
                have hkj32 : key gs m < 4294967296 := by omega
                have e1 := cell_heap (HX9.out wr hb7) (HXR.out m hlt)
                have j1 : (m : Int) < (n7 : Int) := by omega
                have j0 : (0 : Int) ≤ (m : Int) := by omega
                obtain ⟨q, hq⟩ : ∃ q, key gs m = q := ⟨_, rfl⟩
                rw [hq] at e1 hkj32
                have hid := idv_isId q hkj32
                have hids := hid.1
                go_wp2_with fail
                refine (id_any q hkj32 _).mono ?_
                rintro e wa ⟨rfl, hba⟩
                have HDa : Hid (wa.heap[B]? = some (.cells D 30 (0, 0))) := heap_below hba HD.out
                have HEa : Hid (wa.heap[B + 1]? = some (.cells E 38 (0, 0))) := heap_below hba HEE.out
                have lB := lt_of_heap HEa.out
                have hBw := lt_of_heap HEE.out
                clear e1
                go_wp2_with (at_builtin; refine wpList_append_block _ rfl _ _ 27 rfl 30 30 i3 20 Yba.underlying27 hi3 hy1 B m (n7 + 1) D rfl (by exact heap_old HDa.out _) wa.heap.size 1 1 (idv q) rfl (by exact heap_alloc_new _ _) (by omega) (by exact idv_one q hkj32) (by omega) (by omega) ?_; intro wb D' hD1 hD2 hD3 hD4 hD5 hD6)
                have hDr' : Rows 20 D' (m + 1) (idsOf gs) := hDr.app (by omega) hD2 (fun i => by rw [hD3 i]; unfold idsOf; rw [hq])
                have HEb : Hid (wb.heap[B + 1]? = some (.cells E 38 (0, 0))) := (hD4 _ (by omega)).trans (heap_old HEa.out _)
                have hab : ∀ b, b ≤ B → Below b wr wb := fun b hb => ((hba.mono (by omega)).alloc (by omega) _).trans (hD6 b hb)
                have hb7b : Below B w7 wb := hb7.trans (hab _ (Nat.le_refl _))
                have hbelb : Below w.heap.size w wb := hbel.trans (hab _ hwB)
                have HDb := Hid.mk hD1
                have hD' : D'.size = (n7 + 1) * 20 := by omega
                clear hba HDa HEa hD1 hD3 hD4 hD5 hD6 hab hDr HD HEE hD2 hD hb7 hbel lB hBw
                refine (HE.out m _ hlt hbelb).mono ?_
                rintro e wc ⟨rfl, hbc⟩
                have hent : IsEnt (entOf gs ss us m) := ent_is _ _ _ _
                obtain ⟨En, hEn⟩ : ∃ E, entOf gs ss us m = E := ⟨_, rfl⟩
                rw [hEn] at hent ⊢
                have hens := hent.size
                have HDc : Hid (wc.heap[B]? = some (.cells D' 30 (0, 0))) := heap_below hbc HDb.out
                have HEc : Hid (wc.heap[B + 1]? = some (.cells E 38 (0, 0))) := heap_below hbc HEb.out
                have lB := lt_of_heap HEc.out
                have lB2 := lt_of_heap HEb.out
                go_wp2_with (at_builtin; refine wpList_append_block _ rfl _ _ 28 rfl 38 38 i8 6 Yba.underlying28 hi8 hz1 (B + 1) m (n7 + 1) E rfl (by exact heap_old HEc.out _) wc.heap.size 1 1 En rfl (by exact heap_alloc_new _ _) (by omega) (by exact hent.one') (by omega) (by omega) ?_; intro wd E' hE1 hE2 hE3 hE4 hE5 hE6)
                have hEr' : Rows 6 E' (m + 1) (entOf gs ss us) := hEr.app (by omega) hE2 (fun i => by rw [hE3 i, hEn])
                have HDd : Hid (wd.heap[B]? = some (.cells D' 30 (0, 0))) := (hE4 _ (by omega)).trans (heap_old HDc.out _)
                have hab : ∀ b, b ≤ B → Below b wb wd := fun b hb => ((hbc.mono (by omega)).alloc (by omega) _).trans (hE6 b (by omega))
                have hb7d : Below B w7 wd := hb7b.trans (hab _ (Nat.le_refl _))
                have hbeld : Below w.heap.size w wd := hbelb.trans (hab _ hwB)
                have HEd := Hid.mk hE1
                have hE' : E'.size = (n7 + 1) * 6 := by omega
                clear hbc HDc HEc hE1 hE3 hE4 hE5 hE6 hab hEr HDb HEb hE2 hE hb7b hbelb lB lB2
                go_roundw
                case rel => exact ⟨m + 1, D', E', by omega, by go_num, rfl, rfl, hD', hDr', HDd.out, hE', hEr', HEd.out, hb7d, hbeld⟩
                case measure => simp [intOf]; omega
                --]]A1
              · obtain rfl : m = n7 := by omega
                clear hlt
                have haf := HAF.out
                have c1 := cell_heap ((hb7.block _ (hlB haf.node)).trans haf.node) haf.ids
                have c2 := cell_heap ((hb7.block _ (hlB haf.node)).trans haf.node) haf.cache
                have c3 := cell_heap ((hb7.block _ (hlB haf.node)).trans haf.node) haf.alone
                have htw : Twin m A7 D C7 E := twin_of haf.ra hDr haf.rc hEr (fun i hi => idv_isId _ (Nat.lt_trans (HKB.out i hi) (by omega))) (fun i _ => ent_is _ _ _ _)
                have hg9 := (hb7.block _ (hlB haf.hg)).trans haf.hg
                have hh9 := (hb7.block _ (hlB haf.hh)).trans haf.hh
                have HT := Hid.mk htw
                have HG9 := Hid.mk hg9
                have HH9 := Hid.mk hh9
                have hal : (al7 == al7) = true := by simp
                clear haf htw hg9 hh9 hDr hEr
                go_wp2_with fail
                refine wp_region_pick [0, 1, 2, 3, 4, 5, 6, 7, 8, 9, 10, 11, 12, 13, 14, 15, 16, 17, 18, 19, 20] [21, 22, 23] [0, 1, 2, 3, 4, 5, 6, 7, 8, 9, 10, 11, 12, 13, 14, 15, 16, 17, 18, 19, 20] (fun w' => w'.cell? ⟨SP + 1, 34, none⟩ = some (.slice (some ⟨g7, 0, none⟩) m c7) ∧ w'.cell? ⟨SP + 1, 35, none⟩ = some (.slice (some ⟨h7, 0, none⟩) m d7) ∧ w'.cell? ⟨SP + 1, 71, none⟩ = some (.bool al7)) (by kernel_rfl) (by kernel_rfl) (fun _ _ d _ _ h => by cases d <;> exact h) ⟨c1, c2, c3⟩ ?_
                iterate 21 ((first | (refine wpHead_cons (v := ?_) rfl (by rfl) ?_ ?_; rotate_left 1; (focus (rintro w0 ⟨s1, s2, s3⟩; go_simp; first | done | with_reducible rfl))) | (refine wpHead_skip rfl (by rfl) ?_)); simp only [Act.put, List.setIfInBounds_toArray, List.set_cons_zero, List.set_cons_succ])
                refine wpHead_nil ?_
                refine wpTail_list _ _ _ rfl ?_
                simp only [List.filterMap_cons, List.filterMap_nil, List.getElem?_cons_succ, List.getElem?_cons_zero]
                go_wp2_with fail
                refine (eq_any m g7 c7 h7 d7 B (m + 1) (B + 1) (m + 1) A7 D C7 E _ HT.out (by omega) (by exact HG9.out) (by exact HH9.out) (by exact HD.out) (by exact HEE.out)).mono ?_
                rintro e wz ⟨rfl, hbz⟩
                go_wp2_with fail
                go_ret
                exact ⟨rfl, hbel.trans ((Below.refl _ _).drew.trans (hbz.mono hbel.size))⟩
            --]]A
          · --[[B
            have hpp : ((pk : Int) == (self : Int)) = false := by simp; omega
            have haf := HAF.out
            have c3 := cell_heap ((HB9.out.block _ (hlB haf.node)).trans haf.node) haf.alone
            rw [hpp]
            clear hpp haf
            go_wp2_with fail
            go_loopw [30] (fun a wr => ∃ m : Nat, m ≤ k7 ∧ a = .int .i64 (m : Int) ∧ wr = w9) (fun a _ => k7 - (intOf a).toNat)
            case atStart => exact ⟨0, by omega, rfl, rfl⟩
            case round =>
              obtain ⟨m, hm, rfl, rfl⟩ := hrel
              have e1 := cell_heap (HX9.out _ HB9.out) (HXR.out m (by omega))
              have j1 : (m : Int) < (n7 : Int) := by omega
              have j0 : (0 : Int) ≤ (m : Int) := by omega
              by_cases hlt : m < k7
              · have hkm : decide ((key gs m : Int) < (pk : Int)) = true := by have := key_mono gs hlt; rw [hku] at this; simp; omega
                have hkn : decide (key gs m < pk) = true := by have := key_mono gs hlt; rw [hku] at this; simp; omega
                have hkl : (key gs m : Int) < (pk : Int) := by have := key_mono gs hlt; rw [hku] at this; omega
                go_wp2_with fail
                go_roundw
                case rel => exact ⟨m + 1, by omega, by go_num, by first | rfl | trivial⟩
                case measure => simp [intOf]; omega
              · obtain rfl : m = k7 := by omega
                have hkm : decide ((key gs m : Int) < (pk : Int)) = false := by rw [hku]; simp
                have hke : ((key gs m : Int) == (pk : Int)) = true := by rw [hku]; simp
                go_wp2_with fail
                obtain ⟨wv, rfl⟩ : ∃ x, x = wr := ⟨wr, rfl⟩
                clear hlt hkm hke e1 j1 j0 c3
                obtain ⟨k7, rfl⟩ : ∃ x, x = m := ⟨m, rfl⟩
                clear hm
                go_loopw [27, 28, 31, 32] (fun a b i _ wr => ∃ (m : Nat) (D E : Array Value), m ≤ n7 ∧ i = .int .i64 (m : Int) ∧ a = .slice (some ⟨B, 0, none⟩) m (n7 + 1) ∧ b = .slice (some ⟨B + 1, 0, none⟩) m (n7 + 1) ∧ D.size = (n7 + 1) * 20 ∧ Rows 20 D m (idsOf gs) ∧ wr.heap[B]? = some (.cells D 30 (0, 0)) ∧
                  E.size = (n7 + 1) * 6 ∧ Rows 6 E m (updOf gs ss us k7 seen) ∧ wr.heap[B + 1]? = some (.cells E 38 (0, 0)) ∧ Below B w7 wr ∧ Below w.heap.size w wr) (fun _ _ i _ _ => n7 - (intOf i).toNat)
                case atStart => exact ⟨0, Z8, Z9, by omega, rfl, rfl, rfl, hZ8, Rows.zero _ _ _, hA8', hZ9, Rows.zero _ _ _, hA9', HB9.out, HBW.out.1⟩
                case round =>
                  clear hA8' hA9' HB9 hZ8 hZ9 HS9
                  have hwB := HBW.out.2
                  clear HBW
                  obtain ⟨m, D, E, hm, rfl, rfl, rfl, hD, hDr, hD3, hE, hEr, hE3, hb7, hbel⟩ := hrel
                  have HD := Hid.mk hD3
                  have HEE := Hid.mk hE3
                  clear hD3 hE3
                  by_cases hlt : m < n7
                  · --[[B1
                    have hkj := HKB.out m hlt
                    have hkj32 : key gs m < 4294967296 := by omega
                    have e1 := cell_heap (HX9.out wr hb7) (HXR.out m hlt)
                    have j1 : (m : Int) < (n7 : Int) := by omega
                    have j0 : (0 : Int) ≤ (m : Int) := by omega
                    obtain ⟨q, hq⟩ : ∃ q, key gs m = q := ⟨_, rfl⟩
                    rw [hq] at e1 hkj32
                    have hid := idv_isId q hkj32
                    have hids := hid.1
                    go_wp2_with fail
                    refine (id_any q hkj32 _).mono ?_
                    rintro e wa ⟨rfl, hba⟩
                    have HDa : Hid (wa.heap[B]? = some (.cells D 30 (0, 0))) := heap_below hba HD.out
                    have HEa : Hid (wa.heap[B + 1]? = some (.cells E 38 (0, 0))) := heap_below hba HEE.out
                    have lB := lt_of_heap HEa.out
                    have hBw := lt_of_heap HEE.out
                    clear e1
                    go_wp2_with (at_builtin; refine wpList_append_block _ rfl _ _ 27 rfl 30 30 i3 20 Yba.underlying27 hi3 hy1 B m (n7 + 1) D rfl (by exact heap_old HDa.out _) wa.heap.size 1 1 (idv q) rfl (by exact heap_alloc_new _ _) (by omega) (by exact idv_one q hkj32) (by omega) (by omega) ?_; intro wb D' hD1 hD2 hD3 hD4 hD5 hD6)
                    have hDr' : Rows 20 D' (m + 1) (idsOf gs) := hDr.app (by omega) hD2 (fun i => by rw [hD3 i]; unfold idsOf; rw [hq])
                    have HEb : Hid (wb.heap[B + 1]? = some (.cells E 38 (0, 0))) := (hD4 _ (by omega)).trans (heap_old HEa.out _)
                    have hab : ∀ b, b ≤ B → Below b wr wb := fun b hb => ((hba.mono (by omega)).alloc (by omega) _).trans (hD6 b hb)
                    have hb7b : Below B w7 wb := hb7.trans (hab _ (Nat.le_refl _))
                    have hbelb : Below w.heap.size w wb := hbel.trans (hab _ hwB)
                    have HDb := Hid.mk hD1
                    have hD' : D'.size = (n7 + 1) * 20 := by omega
                    clear hba HDa HEa hD1 hD3 hD4 hD5 hD6 hab hDr HD HEE hD2 hD hb7 hbel lB hBw
                    refine (HE.out m _ hlt hbelb).mono ?_
                    rintro e we ⟨rfl, hbc⟩
                    obtain ⟨sn, hsn⟩ : ∃ x, seenOf ss m = x := ⟨_, rfl⟩
                    obtain ⟨En, hEn⟩ : ∃ E, entOf gs ss us m = E := ⟨_, rfl⟩
                    have hEn' : En = ent (gs.getD m 0) sn (addrOf us m) m := by rw [← hEn, ← hsn]; rfl
                    rw [hEn]
                    have hent : IsEnt En := by rw [hEn']; exact ent_is _ _ _ _
                    have hens := hent.size
                    have hE1s : En[1]? = some (.int .i64 sn) := by rw [hEn']; rfl
                    obtain ⟨U, hU⟩ : ∃ U, updOf gs ss us k7 seen m = U := ⟨_, rfl⟩
                    have hUe : IsEnt U := by rw [← hU]; unfold updOf; split <;> exact ent_is _ _ _ _
                    have HDc : Hid (we.heap[B]? = some (.cells D' 30 (0, 0))) := heap_below hbc HDb.out
                    have HEc : Hid (we.heap[B + 1]? = some (.cells E 38 (0, 0))) := heap_below hbc HEb.out
                    have lB := lt_of_heap HEc.out
                    have lB2 := lt_of_heap HEb.out
                    have hcn0 := heap_alloc_new we (.cells En 38)
                    have f1 := cell_heap hcn0 hE1s
                    have f2 := frozen_heap (o := 1) hcn0
                    have HCN := Hid.mk hcn0
                    have HU := Hid.mk hU
                    have HEN := Hid.mk hEn'
                    have HSN := Hid.mk hsn
                    clear hcn0 hU hEn' hsn hEn hE1s
                    go_upto_region 45 with fail
                    go_cut [218] from 192 to 224 (fun v wx => v = .bool (decide (m = k7 ∧ sn < seen)) ∧ wx = we.alloc (.cells En 38))
                    case first =>
                      by_cases hmk : m = k7
                      · have hmb : ((m : Int) == (k7 : Int)) = true := by simp [hmk]
                        by_cases hls : sn < seen
                        · have hlb : decide (sn < seen) = true := by simp [hls]
                          have hdd : decide (m = k7 ∧ sn < seen) = true := by simp [hmk, hls]
                          clear hmk
                          go_wp2_with fail
                          go_meet
                          exact ⟨by rw [hdd], rfl⟩
                        · have hlb : decide (sn < seen) = false := by simp; omega
                          have hdd : decide (m = k7 ∧ sn < seen) = false := by simp; omega
                          clear hmk
                          go_wp2_with fail
                          go_meet
                          exact ⟨by rw [hdd], rfl⟩
                      · have hmb : ((m : Int) == (k7 : Int)) = false := by simp; omega
                        have hmi : ¬ ((m : Int) = (k7 : Int)) := by omega
                        have hdd : decide (m = k7 ∧ sn < seen) = false := by simp; omega
                        go_wp2_with fail
                        go_meet
                        exact ⟨by rw [hdd], rfl⟩
                    case rest =>
                      obtain ⟨rfl, rfl⟩ := hcut
                      go_upto_if 218 with fail
                      go_cut [32] from 192 to 224 (fun v wx => v = .pointer (some ⟨we.heap.size, 0, none⟩) ∧ wx.heap[we.heap.size]? = some (.cells U 38 (0, 0)) ∧ Below we.heap.size we wx)
                      case first =>
                        cases hdd : decide (m = k7 ∧ sn < seen)
                        · go_wp2_with fail
                          go_meet
                          refine ⟨rfl, ?_, (Below.refl _ _).alloc (Nat.le_refl _) _⟩
                          have hd' := of_decide_eq_false hdd
                          rw [HCN.out, ← HU.out, HEN.out]
                          unfold updOf
                          split
                          · rename_i hmk
                            have hls : ¬ sn < seen := fun h => hd' ⟨hmk, h⟩
                            unfold later
                            rw [HSN.out, if_neg hls]
                          · unfold entOf; rw [HSN.out]
                        · go_wp2_with fail
                          go_meet
                          have hd' := of_decide_eq_true hdd
                          refine ⟨rfl, ?_, (Below.refl _ _).alloc (Nat.le_refl _) _⟩
                          rw [heap_alloc_new, ← HU.out, HEN.out]
                          unfold updOf later
                          rw [if_pos hd'.1, HSN.out, if_pos hd'.2]
                          rfl
                      case rest =>
                        obtain ⟨rfl, hU3, hbU⟩ := hcut
                        have hUs := hUe.size
                        have u1 : has6 wc we.heap.size 0 := has6_of hU3 (by omega)
                        have u2 : row6 wc we.heap.size 0 = U := by rw [row6_of hU3]; simp [← hUs]
                        have HDx : Hid (wc.heap[B]? = some (.cells D' 30 (0, 0))) := heap_below hbU HDc.out
                        have HEx : Hid (wc.heap[B + 1]? = some (.cells E 38 (0, 0))) := heap_below hbU HEc.out
                        have lB3 := lt_of_heap HEx.out
                        clear hU3
                        go_wp2_with (at_builtin; refine wpList_append_block _ rfl _ _ 28 rfl 38 38 i8 6 Yba.underlying28 hi8 hz1 (B + 1) m (n7 + 1) E rfl (by exact heap_old HEx.out _) wc.heap.size 1 1 U rfl (by exact heap_alloc_new _ _) (by omega) (by exact hUe.one') (by omega) (by omega) ?_; intro wd E' hE1 hE2 hE3 hE4 hE5 hE6)
                        have hEr' : Rows 6 E' (m + 1) (updOf gs ss us k7 seen) := hEr.app (by omega) hE2 (fun i => by rw [hE3 i, HU.out])
                        have HDd : Hid (wd.heap[B]? = some (.cells D' 30 (0, 0))) := (hE4 _ (by omega)).trans (heap_old HDx.out _)
                        have hab : ∀ b, b ≤ B → Below b wb wd := fun b hb => (((hbc.mono (by omega)).trans (hbU.mono (by omega))).alloc (by omega) _).trans (hE6 b (by omega))
                        have hb7d : Below B w7 wd := hb7b.trans (hab _ (Nat.le_refl _))
                        have hbeld : Below w.heap.size w wd := hbelb.trans (hab _ hwB)
                        have HEd := Hid.mk hE1
                        have hE' : E'.size = (n7 + 1) * 6 := by omega
                        clear hbc HDc HEc hE1 hE3 hE4 hE5 hE6 hab hEr HDb HEb hE2 hE hb7b hbelb lB lB2 lB3 HDx HEx hbU u1 u2
                        go_roundw
                        case rel => exact ⟨m + 1, D', E', by omega, by go_num, rfl, rfl, hD', hDr', HDd.out, hE', hEr', HEd.out, hb7d, hbeld⟩
                        case measure => simp [intOf]; omega
                    --]]B1
                  · obtain rfl : m = n7 := by omega
                    clear hlt
                    have haf := HAF.out
                    have c1 := cell_heap ((hb7.block _ (hlB haf.node)).trans haf.node) haf.ids
                    have c2 := cell_heap ((hb7.block _ (hlB haf.node)).trans haf.node) haf.cache
                    have htw : Twin m A7 D C7 E := twin_of haf.ra hDr haf.rc hEr (fun i hi => idv_isId _ (Nat.lt_trans (HKB.out i hi) (by omega))) (fun i _ => by unfold updOf; split <;> exact ent_is _ _ _ _)
                    have hg9 := (hb7.block _ (hlB haf.hg)).trans haf.hg
                    have hh9 := (hb7.block _ (hlB haf.hh)).trans haf.hh
                    have HT := Hid.mk htw
                    have HG9 := Hid.mk hg9
                    have HH9 := Hid.mk hh9
                    have hkk : ((k7 : Int) == (k7 : Int)) = true := by simp
                    clear haf htw hg9 hh9 hDr hEr
                    go_wp2_with fail
                    refine wp_region_pick [0, 1, 2, 3, 4, 5, 6, 7, 8, 9, 10, 11, 12, 13] [14, 15, 16] [0, 1, 2, 3, 4, 5, 6, 7, 8, 9, 10, 11, 12, 13] (fun w' => w'.cell? ⟨SP + 1, 34, none⟩ = some (.slice (some ⟨g7, 0, none⟩) m c7) ∧ w'.cell? ⟨SP + 1, 35, none⟩ = some (.slice (some ⟨h7, 0, none⟩) m d7)) (by kernel_rfl) (by kernel_rfl) (fun _ _ d _ _ h => by cases d <;> exact h) ⟨c1, c2⟩ ?_
                    iterate 14 ((first | (refine wpHead_cons (v := ?_) rfl (by rfl) ?_ ?_; rotate_left 1; (focus (rintro w0 ⟨s1, s2⟩; go_simp; first | done | with_reducible rfl))) | (refine wpHead_skip rfl (by rfl) ?_)); simp only [Act.put, List.setIfInBounds_toArray, List.set_cons_zero, List.set_cons_succ])
                    refine wpHead_nil ?_
                    refine wpTail_list _ _ _ rfl ?_
                    simp only [List.filterMap_cons, List.filterMap_nil, List.getElem?_cons_succ, List.getElem?_cons_zero]
                    go_wp2_with fail
                    refine (eq_any m g7 c7 h7 d7 B (m + 1) (B + 1) (m + 1) A7 D C7 E _ HT.out (by omega) (by exact HG9.out) (by exact HH9.out) (by exact HD.out) (by exact HEE.out)).mono ?_
                    rintro e wz ⟨rfl, hbz⟩
                    go_wp2_with fail
                    go_ret
                    exact ⟨rfl, hbel.trans ((Below.refl _ _).drew.trans (hbz.mono hbel.size))⟩
            --]]B
          · --[[C
            have hpp : ((pk : Int) == (self : Int)) = false := by simp; omega
            have haf := HAF.out
            have c3 := cell_heap ((HB9.out.block _ (hlB haf.node)).trans haf.node) haf.alone
            rw [hpp]
            clear hpp haf
            go_wp2_with fail
            go_loopw [30] (fun a wr => ∃ m : Nat, m ≤ k7 ∧ a = .int .i64 (m : Int) ∧ wr = w9) (fun a _ => k7 - (intOf a).toNat)
            case atStart => exact ⟨0, by omega, rfl, rfl⟩
            case round =>
              obtain ⟨m, hm, rfl, rfl⟩ := hrel
              have HLO := Hid.mk hlo
              have HHI := Hid.mk hhi
              clear hlo hhi
              have j0 : (0 : Int) ≤ (m : Int) := by omega
              by_cases hlt : m < k7
              · have e1 := cell_heap (HX9.out _ HB9.out) (HXR.out m (by omega))
                have j1 : (m : Int) < (j : Int) := by omega
                have hkq := HLO.out m hlt
                have hkm : decide ((key gs m : Int) < (pk : Int)) = true := by simp; omega
                have hkn : decide (key gs m < pk) = true := by simp; omega
                have hkl : (key gs m : Int) < (pk : Int) := by omega
                go_wp2_with fail
                go_roundw
                case rel => exact ⟨m + 1, by omega, by go_num, by first | rfl | trivial⟩
                case measure => simp [intOf]; omega
              · obtain rfl : m = k7 := by omega
                clear hlt
                obtain ⟨wv, rfl⟩ : ∃ x, x = wr := ⟨wr, rfl⟩
                obtain ⟨k7, rfl⟩ : ∃ x, x = m := ⟨m, rfl⟩
                have hcase : (k7 < j ∧ ∃ q : Nat, pk < q ∧ wv.cell? ⟨w.heap.size, k7, none⟩ = some (.int .u32 (q : Int))) ∨ k7 = j := by
                  by_cases hj : k7 < j
                  · exact .inl ⟨hj, key gs k7, HHI.out k7 (Nat.le_refl _) hj, cell_heap (HX9.out _ HB9.out) (HXR.out k7 hj)⟩
                  · exact .inr (by omega)
                have HCS := Hid.mk hcase
                clear hm hcase c3
                go_upto_region 37 with fail
                go_cut [178] from 168 to 180 (fun v wx => v = .bool false ∧ wx = wv)
                case first =>
                  rcases HCS.out with ⟨hj, q, hq, e1⟩ | hj
                  · have j1 : (k7 : Int) < (j : Int) := by omega
                    have hkm : decide ((q : Int) < (pk : Int)) = false := by simp; omega
                    have hkn : decide (q < pk) = false := by simp; omega
                    go_wp2_with fail
                    go_meet
                    exact ⟨rfl, rfl⟩
                  · have j1 : decide ((k7 : Int) < (j : Int)) = false := by simp; omega
                    have j1n : decide (k7 < j) = false := by simp; omega
                    have j1i : ¬ ((k7 : Int) < (j : Int)) := by omega
                    clear hj
                    go_wp2_with fail
                    go_meet
                    exact ⟨rfl, rfl⟩
                case rest =>
                  obtain ⟨rfl, rfl⟩ := hcut
                  go_upto_region 39 with fail
                  go_cut [191] from 181 to 191 (fun v wx => v = .bool false ∧ wx = wc)
                  case first =>
                    rcases HCS.out with ⟨hj, q, hq, e1⟩ | hj
                    · have j1 : (k7 : Int) < (j : Int) := by omega
                      have hkm : ((q : Int) == (pk : Int)) = false := by simp; omega
                      have hkn : (q == pk) = false := by simp; omega
                      have hkq : ¬ (q : Int) = (pk : Int) := by omega
                      have hkq' : ¬ q = pk := by omega
                      go_wp2_with fail
                      go_meet
                      exact ⟨rfl, rfl⟩
                    · have j1 : decide ((k7 : Int) < (j : Int)) = false := by simp; omega
                      have j1n : decide (k7 < j) = false := by simp; omega
                      have j1i : ¬ ((k7 : Int) < (j : Int)) := by omega
                      clear hj
                      go_wp2_with fail
                      go_meet
                      exact ⟨rfl, rfl⟩
                  case rest =>
                    obtain ⟨rfl, hwv⟩ := hcut
                    subst hwv
                    clear HCS
                    go_wp2_with fail
                    obtain ⟨RI, hRI⟩ : ∃ R, insR k7 (idsOf gs) (idv pk) = R := ⟨_, rfl⟩
                    obtain ⟨EI, hEI⟩ : ∃ R, insR k7 (entOf gs ss us) (fresh pad seen) = R := ⟨_, rfl⟩
                    rw [hRI, hEI] at HAF
                    have HRI : Hid (RI k7 = idv pk ∧ (∀ m c, ((m < k7 ∧ c = m) ∨ (k7 ≤ m ∧ c = m + 1)) → RI c = idsOf gs m) ∧ ∀ i, i < j + 1 → IsId (RI i)) := by
                      refine ⟨by rw [← hRI]; simp [insR], fun m c h => ?_, fun i hi => ?_⟩
                      · rw [← hRI]
                        unfold insR
                        rcases h with ⟨h1, rfl⟩ | ⟨h1, rfl⟩
                        · rw [if_pos h1]
                        · rw [if_neg (by omega), if_neg (by omega)]; rfl
                      · rw [← hRI]
                        unfold insR
                        split
                        · exact idv_isId _ (Nat.lt_trans (HKB.out i (by omega)) (by omega))
                        · split
                          · exact idv_isId _ hpk
                          · exact idv_isId _ (Nat.lt_trans (HKB.out (i - 1) (by omega)) (by omega))
                    have HEI : Hid (EI k7 = fresh pad seen ∧ (∀ m c, ((m < k7 ∧ c = m) ∨ (k7 ≤ m ∧ c = m + 1)) → EI c = entOf gs ss us m) ∧ ∀ i, i < j + 1 → IsEnt (EI i)) := by
                      refine ⟨by rw [← hEI]; simp [insR], fun m c h => ?_, fun i hi => ?_⟩
                      · rw [← hEI]
                        unfold insR
                        rcases h with ⟨h1, rfl⟩ | ⟨h1, rfl⟩
                        · rw [if_pos h1]
                        · rw [if_neg (by omega), if_neg (by omega)]; rfl
                      · rw [← hEI]
                        unfold insR
                        split
                        · exact ent_is _ _ _ _
                        · split
                          · exact ⟨_, _, _, _, _, _, rfl⟩
                          · exact ent_is _ _ _ _
                    clear hRI hEI
                    obtain ⟨wy, rfl⟩ : ∃ x, x = wc := ⟨wc, rfl⟩
                    go_loopw [27, 28, 33] (fun a b i wr => ∃ (m c : Nat) (D E : Array Value), m ≤ j ∧ ((m ≤ k7 ∧ c = m) ∨ (k7 < m ∧ c = m + 1)) ∧ i = .int .i64 (m : Int) ∧ a = .slice (some ⟨B, 0, none⟩) c (j + 1) ∧ b = .slice (some ⟨B + 1, 0, none⟩) c (j + 1) ∧ D.size = (j + 1) * 20 ∧ Rows 20 D c RI ∧ wr.heap[B]? = some (.cells D 30 (0, 0)) ∧ E.size = (j + 1) * 6 ∧ Rows 6 E c EI ∧ wr.heap[B + 1]? = some (.cells E 38 (0, 0)) ∧ Below B w7 wr ∧ Below w.heap.size w wr) (fun _ _ i _ => j - (intOf i).toNat)
                    case atStart => exact ⟨0, 0, Z8, Z9, by omega, .inl ⟨by omega, rfl⟩, rfl, rfl, rfl, hZ8, Rows.zero _ _ _, hA8', hZ9, Rows.zero _ _ _, hA9', HB9.out, HBW.out.1⟩
                    case round =>
                      clear hA8' hA9' HB9 hZ8 hZ9 HS9
                      have hwB := HBW.out.2
                      clear HBW
                      obtain ⟨m, c, D, E, hm, hcm, rfl, rfl, rfl, hD, hDr, hD3, hE, hEr, hE3, hb7, hbel⟩ := hrel
                      have HD := Hid.mk hD3
                      have HEE := Hid.mk hE3
                      have HCM := Hid.mk hcm
                      clear hD3 hE3 hcm
                      by_cases hlt : m < j
                      · --[[C1
                        have j1 : (m : Int) < (j : Int) := by omega
                        have j0 : (0 : Int) ≤ (m : Int) := by omega
                        go_upto_if 248 with fail
                        go_cut [27, 28] from 241 to 275 (fun a b wr => ∃ (c : Nat) (D E : Array Value), ((m < k7 ∧ c = m) ∨ (k7 ≤ m ∧ c = m + 1)) ∧ a = .slice (some ⟨B, 0, none⟩) c (j + 1) ∧ b = .slice (some ⟨B + 1, 0, none⟩) c (j + 1) ∧ D.size = (j + 1) * 20 ∧ Rows 20 D c RI ∧ wr.heap[B]? = some (.cells D 30 (0, 0)) ∧ E.size = (j + 1) * 6 ∧ Rows 6 E c EI ∧ wr.heap[B + 1]? = some (.cells E 38 (0, 0)) ∧ Below B w7 wr ∧ Below w.heap.size w wr)
                        case first =>
                          by_cases hmk : m = k7
                          · --[[C1a
                            have hmb : ((m : Int) == (k7 : Int)) = true := by simp [hmk]
                            have hck : c = m := by rcases HCM.out with h | h <;> omega
                            subst hck
                            have r1 : RI c = idv pk := by rw [hmk]; exact HRI.out.1
                            have r2 : EI c = fresh pad seen := by rw [hmk]; exact HEI.out.1
                            have HMK := Hid.mk hmk
                            have hid := idv_isId pk hpk
                            have hids := hid.1
                            clear hmk
                            go_wp2_with fail
                            refine (id_any pk hpk _).mono ?_
                            rintro e wa1 ⟨rfl, hba1⟩
                            have HDa1 : Hid (wa1.heap[B]? = some (.cells D 30 (0, 0))) := heap_below hba1 HD.out
                            have HEa1 : Hid (wa1.heap[B + 1]? = some (.cells E 38 (0, 0))) := heap_below hba1 HEE.out
                            have lB1 := lt_of_heap HEa1.out
                            have lC1 := lt_of_heap HEE.out
                            go_upto_region 54 with (at_builtin; refine wpList_append_block _ rfl _ _ 27 rfl 30 30 i3 20 Yba.underlying27 hi3 hy1 B c (j + 1) D rfl (by exact heap_old HDa1.out _) wa1.heap.size 1 1 (idv pk) rfl (by exact heap_alloc_new _ _) (by omega) (by exact idv_one pk hpk) (by omega) (by omega) ?_; intro wb1 D1 hD11 hD21 hD31 hD41 hD51 hD61)
                            have hDr1 : Rows 20 D1 (c + 1) RI := hDr.app (by omega) hD21 (fun i => by rw [hD31 i, r1])
                            have HEb1 : Hid (wb1.heap[B + 1]? = some (.cells E 38 (0, 0))) := (hD41 _ (by omega)).trans (heap_old HEa1.out _)
                            have hab1 : ∀ b, b ≤ B → Below b wr wb1 := fun b hb => ((hba1.mono (by omega)).alloc (by omega) _).trans (hD61 b hb)
                            have hb71 : Below B w7 wb1 := hb7.trans (hab1 _ (Nat.le_refl _))
                            have hbel1 : Below w.heap.size w wb1 := hbel.trans (hab1 _ hwB)
                            have HDb1 := Hid.mk hD11
                            have hDs1 : D1.size = (j + 1) * 20 := by omega
                            clear hD11 hD31 hD41 hD51 hD61 hab1 hba1 HDa1 HEa1 lB1 lC1
                            go_wp2_with (at_builtin; refine wpList_append_block _ rfl _ _ 28 rfl 38 38 i8 6 Yba.underlying28 hi8 hz1 (B + 1) c (j + 1) E rfl (by exact heap_old HEb1.out _) wb1.heap.size 1 1 #[.int .i64 pad, .int .i64 seen, .int .u8 0, .int .u16 0, .int .u16 0, .bool false] rfl (by exact heap_alloc_new _ _) (by exact rfl) (by exact fresh_one pad seen) (by omega) (by omega) ?_; intro wd1 E1 hE11 hE21 hE31 hE41 hE51 hE61)
                            have lD1 := lt_of_heap HEb1.out
                            have hEr1 : Rows 6 E1 (c + 1) EI := hEr.app (by omega) hE21 (fun i => by rw [hE31 i, r2]; rfl)
                            have hDd1 := (hE41 B (by omega)).trans (heap_old HDb1.out _)
                            have hcd1 : ∀ b, b ≤ B → Below b wb1 wd1 := fun b hb => ((Below.refl b wb1).alloc (by omega) _).trans (hE61 b (by omega))
                            have hb81 : Below B w7 wd1 := hb71.trans (hcd1 _ (Nat.le_refl _))
                            have hbe81 : Below w.heap.size w wd1 := hbel1.trans (hcd1 _ hwB)
                            have hEs1 : E1.size = (j + 1) * 6 := by omega
                            go_meet
                            exact ⟨c + 1, D1, E1, .inr ⟨by have := HMK.out; omega, rfl⟩, rfl, rfl, hDs1, hDr1, hDd1, hEs1, hEr1, hE11, hb81, hbe81⟩
                            --]]C1a
                          · have hmb : ((m : Int) == (k7 : Int)) = false := by simp; omega
                            have hmi : ¬ ((m : Int) = (k7 : Int)) := by omega
                            go_wp2_with fail
                            go_meet
                            exact ⟨c, D, E, by rcases HCM.out with h | h <;> omega, rfl, rfl, hD, hDr, HD.out, hE, hEr, HEE.out, hb7, hbel⟩
                        case rest =>
                          --[[C1b
                          clear HD HEE hD hE hDr hEr hb7 hbel HCM
                          obtain ⟨c, D, E, hcm, rfl, rfl, hD, hDr, hD3, hE, hEr, hE3, hb7, hbel⟩ := hcut
                          have HD := Hid.mk hD3
                          have HEE := Hid.mk hE3
                          clear hD3 hE3
                          have hkj := HKB.out m hlt
                          have hkj32 : key gs m < 4294967296 := by omega
                          have e1 := cell_heap (HX9.out _ hb7) (HXR.out m hlt)
                          have r1 := HRI.out.2.1 m c hcm
                          have r2 := HEI.out.2.1 m c hcm
                          have hcj : c + 1 ≤ j + 1 := by omega
                          have HCM := Hid.mk hcm
                          clear hcm
                          unfold idsOf at r1
                          obtain ⟨q, hq⟩ : ∃ q, key gs m = q := ⟨_, rfl⟩
                          rw [hq] at e1 hkj32 r1
                          have hid := idv_isId q hkj32
                          have hids := hid.1
                          go_wp2_with fail
                          refine (id_any q hkj32 _).mono ?_
                          rintro e wa2 ⟨rfl, hba2⟩
                          have HDa2 : Hid (wa2.heap[B]? = some (.cells D 30 (0, 0))) := heap_below hba2 HD.out
                          have HEa2 : Hid (wa2.heap[B + 1]? = some (.cells E 38 (0, 0))) := heap_below hba2 HEE.out
                          have lB2 := lt_of_heap HEa2.out
                          have lC2 := lt_of_heap HEE.out
                          clear e1
                          go_wp2_with (at_builtin; refine wpList_append_block _ rfl _ _ 27 rfl 30 30 i3 20 Yba.underlying27 hi3 hy1 B c (j + 1) D rfl (by exact heap_old HDa2.out _) wa2.heap.size 1 1 (idv q) rfl (by exact heap_alloc_new _ _) (by omega) (by exact idv_one q hkj32) (by omega) (by omega) ?_; intro wb2 D2 hD12 hD22 hD32 hD42 hD52 hD62)
                          have hDr2 : Rows 20 D2 (c + 1) RI := hDr.app (by omega) hD22 (fun i => by rw [hD32 i, r1])
                          have HEb2 : Hid (wb2.heap[B + 1]? = some (.cells E 38 (0, 0))) := (hD42 _ (by omega)).trans (heap_old HEa2.out _)
                          have hab2 : ∀ b, b ≤ B → Below b wc wb2 := fun b hb => ((hba2.mono (by omega)).alloc (by omega) _).trans (hD62 b hb)
                          have hb72 : Below B w7 wb2 := hb7.trans (hab2 _ (Nat.le_refl _))
                          have hbel2 : Below w.heap.size w wb2 := hbel.trans (hab2 _ hwB)
                          have HDb2 := Hid.mk hD12
                          have hDs2 : D2.size = (j + 1) * 20 := by omega
                          clear hba2 HDa2 HEa2 hD12 hD32 hD42 hD52 hD62 hab2 hDr HD HEE hD22 hD hb7 hbel lB2 lC2
                          refine (HE.out m _ hlt hbel2).mono ?_
                          rintro e we ⟨rfl, hbc⟩
                          have hent : IsEnt (entOf gs ss us m) := ent_is _ _ _ _
                          obtain ⟨En, hEn⟩ : ∃ E, entOf gs ss us m = E := ⟨_, rfl⟩
                          rw [hEn] at hent r2 ⊢
                          have hens := hent.size
                          have HDc : Hid (we.heap[B]? = some (.cells D2 30 (0, 0))) := heap_below hbc HDb2.out
                          have HEc : Hid (we.heap[B + 1]? = some (.cells E 38 (0, 0))) := heap_below hbc HEb2.out
                          have lB := lt_of_heap HEc.out
                          have lB2 := lt_of_heap HEb2.out
                          go_wp2_with (at_builtin; refine wpList_append_block _ rfl _ _ 28 rfl 38 38 i8 6 Yba.underlying28 hi8 hz1 (B + 1) c (j + 1) E rfl (by exact heap_old HEc.out _) we.heap.size 1 1 En rfl (by exact heap_alloc_new _ _) (by omega) (by exact hent.one') (by omega) (by omega) ?_; intro wd E' hE1 hE2 hE3 hE4 hE5 hE6)
                          have hEr' : Rows 6 E' (c + 1) EI := hEr.app (by omega) hE2 (fun i => by rw [hE3 i, r2])
                          have HDd : Hid (wd.heap[B]? = some (.cells D2 30 (0, 0))) := (hE4 _ (by omega)).trans (heap_old HDc.out _)
                          have hab : ∀ b, b ≤ B → Below b wb2 wd := fun b hb => ((hbc.mono (by omega)).alloc (by omega) _).trans (hE6 b (by omega))
                          have hb7d : Below B w7 wd := hb72.trans (hab _ (Nat.le_refl _))
                          have hbeld : Below w.heap.size w wd := hbel2.trans (hab _ hwB)
                          have HEd := Hid.mk hE1
                          have hE' : E'.size = (j + 1) * 6 := by omega
                          clear hbc HDc HEc hE1 hE3 hE4 hE5 hE6 hab hEr HDb2 HEb2 hE2 hE hb72 hbel2 lB lB2
                          go_roundw
                          case rel => exact ⟨m + 1, c + 1, D2, E', by omega, by rcases HCM.out with h | h <;> omega, by go_num, rfl, rfl, hDs2, hDr2, HDd.out, hE', hEr', HEd.out, hb7d, hbeld⟩
                          case measure => simp [intOf]; omega
                          --]]C1b
                        --]]C1
                      · --[[C2
                        obtain rfl : m = j := by omega
                        clear hlt
                        go_upto_if 278 with fail
                        go_cut [27, 28] from 276 to 289 (fun a b wr => ∃ (D E : Array Value), a = .slice (some ⟨B, 0, none⟩) (m + 1) (m + 1) ∧ b = .slice (some ⟨B + 1, 0, none⟩) (m + 1) (m + 1) ∧ D.size = (m + 1) * 20 ∧ Rows 20 D (m + 1) RI ∧ wr.heap[B]? = some (.cells D 30 (0, 0)) ∧ E.size = (m + 1) * 6 ∧ Rows 6 E (m + 1) EI ∧ wr.heap[B + 1]? = some (.cells E 38 (0, 0)) ∧ Below B w7 wr ∧ Below w.heap.size w wr)
                        case first =>
                          by_cases hmk : k7 = m
                          · --[[C2a
                            have hmb : ((k7 : Int) == (m : Int)) = true := by simp [hmk]
                            have hck : c = m := by rcases HCM.out with h | h <;> omega
                            have r1 : RI c = idv pk := by rw [hck, ← hmk]; exact HRI.out.1
                            have r2 : EI c = fresh pad seen := by rw [hck, ← hmk]; exact HEI.out.1
                            have HCK := Hid.mk hck
                            have hcj : c + 1 ≤ m + 1 := by omega
                            have hid := idv_isId pk hpk
                            have hids := hid.1
                            clear hmk hck
                            go_wp2_with fail
                            refine (id_any pk hpk _).mono ?_
                            rintro e wa3 ⟨rfl, hba3⟩
                            have HDa3 : Hid (wa3.heap[B]? = some (.cells D 30 (0, 0))) := heap_below hba3 HD.out
                            have HEa3 : Hid (wa3.heap[B + 1]? = some (.cells E 38 (0, 0))) := heap_below hba3 HEE.out
                            have lB3 := lt_of_heap HEa3.out
                            have lC3 := lt_of_heap HEE.out
                            go_upto_region 59 with (at_builtin; refine wpList_append_block _ rfl _ _ 27 rfl 30 30 i3 20 Yba.underlying27 hi3 hy1 B c (m + 1) D rfl (by exact heap_old HDa3.out _) wa3.heap.size 1 1 (idv pk) rfl (by exact heap_alloc_new _ _) (by omega) (by exact idv_one pk hpk) (by omega) (by omega) ?_; intro wb3 D3 hD13 hD23 hD33 hD43 hD53 hD63)
                            have hDr3 : Rows 20 D3 (c + 1) RI := hDr.app (by omega) hD23 (fun i => by rw [hD33 i, r1])
                            have HEb3 : Hid (wb3.heap[B + 1]? = some (.cells E 38 (0, 0))) := (hD43 _ (by omega)).trans (heap_old HEa3.out _)
                            have hab3 : ∀ b, b ≤ B → Below b wr wb3 := fun b hb => ((hba3.mono (by omega)).alloc (by omega) _).trans (hD63 b hb)
                            have hb73 : Below B w7 wb3 := hb7.trans (hab3 _ (Nat.le_refl _))
                            have hbel3 : Below w.heap.size w wb3 := hbel.trans (hab3 _ hwB)
                            have HDb3 := Hid.mk hD13
                            have hDs3 : D3.size = (m + 1) * 20 := by omega
                            clear hD13 hD33 hD43 hD53 hD63 hab3 hba3 HDa3 HEa3 lB3 lC3
                            go_wp2_with (at_builtin; refine wpList_append_block _ rfl _ _ 28 rfl 38 38 i8 6 Yba.underlying28 hi8 hz1 (B + 1) c (m + 1) E rfl (by exact heap_old HEb3.out _) wb3.heap.size 1 1 #[.int .i64 pad, .int .i64 seen, .int .u8 0, .int .u16 0, .int .u16 0, .bool false] rfl (by exact heap_alloc_new _ _) (by exact rfl) (by exact fresh_one pad seen) (by omega) (by omega) ?_; intro wd3 E3 hE13 hE23 hE33 hE43 hE53 hE63)
                            have lD3 := lt_of_heap HEb3.out
                            have hEr3 : Rows 6 E3 (c + 1) EI := hEr.app (by omega) hE23 (fun i => by rw [hE33 i, r2]; rfl)
                            have hDd3 := (hE43 B (by omega)).trans (heap_old HDb3.out _)
                            have hcd3 : ∀ b, b ≤ B → Below b wb3 wd3 := fun b hb => ((Below.refl b wb3).alloc (by omega) _).trans (hE63 b (by omega))
                            have hb83 : Below B w7 wd3 := hb73.trans (hcd3 _ (Nat.le_refl _))
                            have hbe83 : Below w.heap.size w wd3 := hbel3.trans (hcd3 _ hwB)
                            have hEs3 : E3.size = (m + 1) * 6 := by omega
                            go_meet
                            obtain rfl : c = m := HCK.out
                            exact ⟨D3, E3, rfl, rfl, hDs3, hDr3, hDd3, hEs3, hEr3, hE13, hb83, hbe83⟩
                            --]]C2a
                          · have hmb : ((k7 : Int) == (m : Int)) = false := by simp; omega
                            have hmi : ¬ ((k7 : Int) = (m : Int)) := by omega
                            obtain rfl : c = m + 1 := by rcases HCM.out with h | h <;> omega
                            go_wp2_with fail
                            go_meet
                            exact ⟨D, E, rfl, rfl, hD, hDr, HD.out, hE, hEr, HEE.out, hb7, hbel⟩
                        case rest =>
                          --[[C2b
                          clear HD HEE hD hE hDr hEr hb7 hbel HCM
                          obtain ⟨D, E, rfl, rfl, hD, hDr, hD3, hE, hEr, hE3, hb7, hbel⟩ := hcut
                          have HD := Hid.mk hD3
                          have HEE := Hid.mk hE3
                          clear hD3 hE3
                          have haf := HAF.out
                          have c1 := cell_heap ((hb7.block _ (hlB haf.node)).trans haf.node) haf.ids
                          have c2 := cell_heap ((hb7.block _ (hlB haf.node)).trans haf.node) haf.cache
                          have htw : Twin (m + 1) A7 D C7 E := twin_of haf.ra hDr haf.rc hEr HRI.out.2.2 HEI.out.2.2
                          have hg9 := (hb7.block _ (hlB haf.hg)).trans haf.hg
                          have hh9 := (hb7.block _ (hlB haf.hh)).trans haf.hh
                          have HT := Hid.mk htw
                          have HG9 := Hid.mk hg9
                          have HH9 := Hid.mk hh9
                          have hkk : ((k7 : Int) == (k7 : Int)) = true := by simp
                          clear haf htw hg9 hh9 hDr hEr
                          go_wp2_with fail
                          refine wp_region_pick [0, 1, 2, 3, 4, 5, 6, 7, 8, 9, 10, 11, 12, 13] [14, 15, 16] [0, 1, 2, 3, 4, 5, 6, 7, 8, 9, 10, 11, 12, 13] (fun w' => w'.cell? ⟨SP + 1, 34, none⟩ = some (.slice (some ⟨g7, 0, none⟩) (m + 1) c7) ∧ w'.cell? ⟨SP + 1, 35, none⟩ = some (.slice (some ⟨h7, 0, none⟩) (m + 1) d7)) (by kernel_rfl) (by kernel_rfl) (fun _ _ d _ _ h => by cases d <;> exact h) ⟨c1, c2⟩ ?_
                          iterate 14 ((first | (refine wpHead_cons (v := ?_) rfl (by rfl) ?_ ?_; rotate_left 1; (focus (rintro w0 ⟨s1, s2⟩; go_simp; first | done | with_reducible rfl))) | (refine wpHead_skip rfl (by rfl) ?_)); simp only [Act.put, List.setIfInBounds_toArray, List.set_cons_zero, List.set_cons_succ])
                          refine wpHead_nil ?_
                          refine wpTail_list _ _ _ rfl ?_
                          simp only [List.filterMap_cons, List.filterMap_nil, List.getElem?_cons_succ, List.getElem?_cons_zero]
                          go_wp2_with fail
                          refine (eq_any (m + 1) g7 c7 h7 d7 B (m + 1) (B + 1) (m + 1) A7 D C7 E _ HT.out (by omega) (by exact HG9.out) (by exact HH9.out) (by exact HD.out) (by exact HEE.out)).mono ?_
                          rintro e wz ⟨rfl, hbz⟩
                          go_wp2_with fail
                          go_ret
                          exact ⟨rfl, hbel.trans ((Below.refl _ _).drew.trans (hbz.mono hbel.size))⟩
                          --]]C2b
                        --]]C2
            --]]C
end Go.Proofs.Ybulkdzha
