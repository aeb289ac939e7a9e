/-
  THE WALK of LawS6293CWhole.
-/
import Derived.Test.YbulkdzhoDs
namespace Go.Proofs.Ybulkdzho
open Go Go.RowKit Go.MuLone
attribute [local go_sem ↓] loadAt24 storeAt24 build40
attribute [local go_sem] guard24

theorem mask_nat (x : Int) : ∃ n : Nat, n < 9223372036854775808 ∧ bits .and .i64 x 9223372036854775807 = (n : Int) := by
  refine ⟨(BitVec.ofInt 64 x &&& BitVec.ofInt 64 9223372036854775807).toNat, ?_, ?_⟩
  · rw [BitVec.toNat_and]
    have h : (BitVec.ofInt 64 9223372036854775807).toNat = 9223372036854775807 := by decide
    rw [h]
    have := Nat.and_le_right (n := (BitVec.ofInt 64 x).toNat) (m := 9223372036854775807)
    omega
  · show IntKind.i64.wrap ((BitVec.ofInt 64 x &&& BitVec.ofInt 64 9223372036854775807).toNat : Int) = _
    rw [BitVec.toNat_and]
    have h : (BitVec.ofInt 64 9223372036854775807).toNat = 9223372036854775807 := by decide
    rw [h]
    have := Nat.and_le_right (n := (BitVec.ofInt 64 x).toNat) (m := 9223372036854775807)
    rw [IntKind.wrap_i64]
    omega

theorem run_eq_ptr (d : Nat) (T : Nat) (w : World) : (Op.equalIn (d + 1) 25 (.pointer (some ⟨T, 0, none⟩)) (.pointer (some ⟨T, 0, none⟩))).run Yba.prog w = .ok true w := by
  unfold Op.equalIn
  simp [run_underlying Yba.underlying25]
  simp [sameAddr]
theorem ptr_same (T : Nat) (w : World) : (binOp .neq 25 (.pointer (some ⟨T, 0, none⟩)) (.pointer (some ⟨T, 0, none⟩))).run Yba.prog w = .ok (.bool false) w := by
  simp only [binOp]
  simp [Op.equal, Op.maxDepth, run_eq_ptr 9999]

theorem info24' : (Yba.prog.info? 24).map (fun i => (i.zero, i.size, i.bytes)) = some (some (.agg (Array.replicate 64 (.int .i64 0))), 64, 512) := by kernel_rfl

def lenV : Value → Nat
  | .slice _ n _ => n
  | _ => 0
theorem lenV_of {w : World} {base n : Nat} {v : Value} {xs : List Value} (h : w.ownsRow base 2 1 v n xs) : lenV v = n := by
  rcases h.2 with ⟨rfl, rfl⟩ | ⟨g, cap, cur, rfl, _⟩ <;> rfl
theorem vals_append (xs ys : List Int) : vals (xs ++ ys) = vals xs ++ vals ys := by simp [vals]
theorem room_of (cur : List Int) (j r : Nat) (h : cur.length + r ≤ max cur.length (j + 1)) (hj : j < (cur ++ List.replicate r (0 : Int)).length) : cur ++ List.replicate r 0 = room cur j := by
  have hl : j < cur.length + r := by simpa using hj
  unfold room
  have : r = j + 1 - cur.length := by omega
  rw [this]

set_option maxRecDepth 100000 in
set_option maxHeartbeats 4000000 in
theorem law_any (n0 d0 hn : Int) (full : Bool) (a0 b0 : Option Addr) (cp cb : Nat) (ps zs : List Int) (w : World) (hn0 : 0 ≤ n0) (hn1 : n0 ≤ 255) (hp : Came w a0 ps) (hc : Came w b0 zs) (hz : zs.length ≤ 1048576) (hhn : wrap64 hn = hn) :
    Calls Yba.prog 3 #[.int .u8 n0, .bool full, .slice a0 ps.length cp, .int .i64 d0, .slice b0 zs.length cb, .int .i64 hn] w fun e w' => e = .returned (.bool true) ∧ Below w.heap.size w w' := by
  obtain ⟨i2, hi, hz0, hz1, hz2⟩ := info_parts info2
  have HP := Hid.mk hp
  have HC := Hid.mk hc
  clear hp hc
  have hle : decide ((1048576 : Int) < (zs.length : Int)) = false := by simp; omega
  have hle' : ¬ ((1048576 : Int) < (zs.length : Int)) := by omega
  obtain ⟨dd, hdd, hdm⟩ := mask_nat d0
  go_enter Yba.func3, Yba.ntmps3
  go_upto_if 29 with fail
  go_cut [13] (fun v wx => (∃ k : Nat, k < 64 ∧ v = .int .i64 (k : Int)) ∧ w = wx)
  case first =>
    cases full
    · go_wp2_with fail
      go_meet
      exact ⟨⟨(n0 % 64).toNat, by omega, by congr 1; omega⟩, rfl⟩
    · go_wp2_with fail
      go_meet
      exact ⟨⟨63, by omega, rfl⟩, rfl⟩
  case rest =>
    obtain ⟨⟨k, hk, rfl⟩, rfl⟩ := hcut
    go_upto_block 0 with fail
    go_cut [] (fun wx => ∃ (c : Array Value) (D : Nat → Nat), Ds c D ∧ (∀ i, i < 64 → D i < 9223372036854775808) ∧ wx.heap[w.heap.size]? = some (.cells c 24 (0, 0)) ∧ Below w.heap.size w wx)
    case first =>
      go_wp2_with fail
      go_loopw [15] (fun i wr => ∃ (j : Nat) (c : Array Value) (D : Nat → Nat), j ≤ 64 ∧ i = .int .i64 (j : Int) ∧ Ds c D ∧ (∀ i, i < 64 → D i < 9223372036854775808) ∧ wr.heap[w.heap.size]? = some (.cells c 24 (0, 0)) ∧ Below w.heap.size w wr) (fun i _ => 64 - (intOf i).toNat)
      case atStart =>
        refine ⟨0, Array.replicate 64 (.int .i64 0), fun _ => 0, by omega, rfl, ⟨by simp, fun i hi => by simp [hi]⟩, fun _ _ => (by decide : (0 : Nat) < 9223372036854775808), ?_, (Below.refl _ _).alloc (Nat.le_refl _) _⟩
        exact heap_alloc_new _ _
      case round =>
        obtain ⟨j, c, D, hj, rfl, hD, hD63, hw, hbel⟩ := hrel
        by_cases hj64 : j < 64
        · have hj1 : decide ((j : Int) < 64) = true := by simp; omega
          by_cases hjp : j < ps.length
          · have hj2 : decide ((j : Int) < (ps.length : Int)) = true := by simp; omega
            rcases HP.out with ⟨_, h0⟩ | ⟨a, rfl, hcell⟩
            · rw [h0] at hjp; simp at hjp
            obtain ⟨x, hx⟩ : ∃ x, ps.getD j 0 = x := ⟨_, rfl⟩
            have e1 := cell_below hbel (hcell j hjp)
            rw [hx] at e1
            obtain ⟨m, hm, hxm⟩ := mask_nat x
            have e2 := cell_heap hw (hD.2 j hj64)
            have f2 := frozen_heap (o := j) hw
            have HW := Hid.mk hw
            have j0 : (0 : Int) ≤ (j : Int) := by omega
            have j1 : (j : Int) < (ps.length : Int) := by omega
            have j2 : (j : Int) < 64 := by omega
            clear hw hcell hx
            go_wp2_with fail
            go_roundw
            case rel =>
              refine ⟨j + 1, _, put D j m, by omega, by go_num, hD.set hj64 m, fun i hi => by unfold put; split <;> first | exact hm | exact hD63 i hi, heap_setCell_same HW.out _, hbel.setCell (Nat.le_refl _) _⟩
            case measure => simp [intOf]; omega
          · have hj2 : decide ((j : Int) < (ps.length : Int)) = false := by simp; omega
            go_wp2_with fail
            go_meet
            exact ⟨c, D, hD, hD63, hw, hbel⟩
        · have hj1 : decide ((j : Int) < 64) = false := by simp; omega
          go_wp2_with fail
          go_meet
          exact ⟨c, D, hD, hD63, hw, hbel⟩
    case rest =>
      obtain ⟨c, D, hD, hD63, hw, hbel⟩ := hcut
      have HW := Hid.mk hw
      clear hw
      go_wp2_with fail
      refine (clone_any w.heap.size b0 cb zs wc (HC.out.below hbel) hz hbel.size).mono ?_
      rintro e w1 ⟨v, rfl, hown, hblk, hb1⟩
      obtain ⟨T, hT⟩ : ∃ T, T = w1.heap.size := ⟨_, rfl⟩
      obtain ⟨bat, hbat, hbd⟩ := batch_cells T c D hD k
      have hbel1 : Below w.heap.size w w1 := hbel.trans (hb1.mono hbel.size)
      have hW1 : w1.heap[w.heap.size]? = some (.cells c 24 (0, 0)) := heap_below hb1 HW.out
      have hld : ∀ o, (ld24 (.pointer (some ⟨w.heap.size, 0, none⟩))).run Yba.prog (w1.alloc o) = .ok (.agg c) (w1.alloc o) := fun o => run_ld24 _ _ 0 c D hD (fun i hi => by rw [Nat.zero_add]; exact cell_heap (heap_old hW1 o) (hD.2 i hi))
      have hwl := lt_of_heap hW1
      have hvl : ∀ i, v.ownBlock = some i → i < T := fun i hi => by rw [hT]; exact (hown.lt i hi).2
      obtain ⟨b1, cap1, rfl, hcame1⟩ := came_of_owns hown
      have HW1 := Hid.mk hW1
      have HO := Hid.mk hown
      have HBL := Hid.mk hvl
      have HT := Hid.mk hT
      clear hW1 hown hblk hb1 hcame1 hvl hbel HW
      rw [hT] at hbd
      clear hT
      go_upto_region 14 with fail
      obtain ⟨w2, hw2⟩ : ∃ w2, w2 = ((w1.alloc (.cells (tim 0 0 (.slice b1 zs.length cap1) hn) 37)).alloc (.cells bat 40)) := ⟨_, rfl⟩
      rw [show ((w1.alloc (Obj.cells #[.int .i32 0, .int .u32 0, .slice b1 zs.length cap1, .int .i64 hn] 37)).alloc (Obj.cells bat 40)) = w2 from hw2.symm, ← HT.out]
      have hTT := HT.out
      have T2 : Hid (w2.heap[T]? = some (.cells (tim 0 0 (.slice b1 zs.length cap1) hn) 37 (0, 0))) := Hid.mk (by rw [hw2, hTT]; exact heap_alloc1 _ _ _)
      have B2 : Hid (w2.heap[T + 1]? = some (.cells bat 40 (0, 0))) := Hid.mk (by rw [hw2, hTT]; exact heap_alloc2 _ _ _)
      have W2 : Hid (w2.heap[w.heap.size]? = some (.cells c 24 (0, 0))) := Hid.mk (by rw [hw2]; exact heap_old (heap_old HW1.out _) _)
      have O2 : Hid (w2.ownsRow w.heap.size 2 1 (.slice b1 zs.length cap1) zs.length (vals zs)) := Hid.mk (by rw [hw2]; exact (HO.out.alloc _).alloc _)
      have hbel2 : Below w.heap.size w w2 := by rw [hw2]; exact (hbel1.alloc hbel1.size _).alloc (Nat.le_trans hbel1.size (by simp)) _
      have hwT : w.heap.size < T := by omega
      clear hw2 hTT HT HW1 HO hbel1 hld hbd hwl
      have V1 : Hid ((Value.slice b1 zs.length cap1).ownBlock ≠ some T) := Hid.mk (fun e => Nat.lt_irrefl _ (HBL.out _ e))
      have V2 : Hid ((Value.slice b1 zs.length cap1).ownBlock ≠ some (T + 1)) := Hid.mk (fun e => by have := HBL.out _ e; omega)
      have V3 : Hid ((Value.slice b1 zs.length cap1).ownBlock ≠ some w.heap.size) := Hid.mk (fun e => by
        obtain ⟨h1, h2⟩ := O2.out.lt _ e
        rcases O2.out.2 with ⟨h, _⟩ | ⟨g, cap, cur, h, _, hg, _⟩
        · rw [h] at e; simp [Value.ownBlock] at e
        · rw [h] at e; simp [Value.ownBlock] at e; subst e; rw [W2.out] at hg; simp at hg)
      go_cut [] (fun wx => ∃ (v' : Value) (n' m : Int) (bat' : Array Value) (ys : List Int), wx.heap[T]? = some (.cells (tim 0 0 v' n') 37 (0, 0)) ∧ wx.heap[T + 1]? = some (.cells bat' 40 (0, 0)) ∧ Bat bat' T (put D k dd) m ∧
        wx.heap[w.heap.size]? = some (.cells c 24 (0, 0)) ∧ wx.ownsRow w.heap.size 2 1 v' ys.length (vals ys) ∧ v'.ownBlock ≠ some T ∧ v'.ownBlock ≠ some (T + 1) ∧ Below w.heap.size w wx ∧
        ((k < 63 ∧ n' = hn ∧ m = ((k + 1 : Nat) : Int) ∧ ys = zs) ∨ (k = 63 ∧ n' = wrap64 (hn + (64 : Nat)) ∧ m = 0 ∧ ys = bumps zs (put D k dd) 64)))
      case first =>
        have hTl := lt_of_heap T2.out
        have hBl := lt_of_heap B2.out
        have hWl := lt_of_heap W2.out
        by_cases hk63 : k < 63
        · go_wp2_with fail
          refine (badd_some (T + 1) T k D bat dd hbat hk63 w2 B2.out).mono ?_
          rintro e w3 ⟨rfl, h1, h2⟩
          go_wp2_with fail
          go_meet
          refine ⟨.slice b1 zs.length cap1, hn, _, _, zs, (h2.block T hTl (by omega)).trans T2.out, h1, hbat.put hk _, (h2.block _ hWl (by omega)).trans W2.out, ?_, V1.out, V2.out, ?_, .inl ⟨hk63, rfl, rfl, rfl⟩⟩
          · exact O2.out.kept (row := some (T + 1)) ⟨h2.os, h2.tape, h2.output, h2.size, fun i hi hn => h2.block i hi (fun e => hn (congrArg some e))⟩ (.inr V2.out)
          · exact hbel2.trans (h2.below _ (by omega) (fun i hi => by omega))
        · have HK63 : Hid (k = 63) := Hid.mk (by omega)
          clear hk63
          go_wp2_with fail
          refine (badd_full (T + 1) T k w.heap.size HK63.out 0 hn (.slice b1 zs.length cap1) zs D hD63 bat dd hdd hbat w2 B2.out T2.out (by omega) hhn O2.out V1.out V2.out hz hbel2.size).mono ?_
          rintro e w3 ⟨rfl, v', h1, h2, h3, h4, h5⟩
          go_wp2_with fail
          go_meet
          refine ⟨v', _, 0, _, _, h1, h2, ?_, (h5.block _ hWl ?_).trans W2.out, h3, ?_, ?_, ?_,   .inr ⟨HK63.out, rfl, rfl, rfl⟩⟩
          · have := (hbat.put (k := k) (d := dd) hk 64)
            refine ⟨by simpa using this.size, ?_, fun i hi => ?_, ?_⟩
            · rw [Array.getElem?_setIfInBounds_ne (by omega)]; exact this.tm
            · rw [Array.getElem?_setIfInBounds_ne (by omega)]; exact this.ds i hi
            · rw [Array.getElem?_setIfInBounds_self_of_lt (by rw [this.size]; omega)]
          · rintro (h | h | h)
            · omega
            · omega
            · exact V3.out h
          · rcases h4 with h | ⟨i, h, hi⟩
            · rw [h]; exact V1.out
            · rw [h]; intro e; simp at e; omega
          · rcases h4 with h | ⟨i, h, hi⟩
            · rw [h]; exact V2.out
            · rw [h]; intro e; simp at e; omega
          · refine hbel2.trans (h5.below _ (by omega) (fun i hi => ?_))
            rcases hi with h | h | h
            · omega
            · omega
            · exact (O2.out.lt _ h).1
      case rest =>
        clear T2 B2 W2 O2 V1 V2 V3 HBL hbel2 hbat
        obtain ⟨v', n', m, bat', ys, h1, h2, hbat, h3, hown, hvT, hvB, hbel, hwhich⟩ := hcut
        have t0 : wc.cell? ⟨T, 0, none⟩ = some (.int .i32 0) := cell_heap (o := 0) h1 rfl
        have tf := frozen_heap (o := 0) h1
        go_upto_region 17 with fail
        refine (trylock_free ⟨T, 0, none⟩ wc t0 tf).mono ?_
        rintro e w3 ⟨rfl, hw3⟩
        have hT3 : w3.heap[T]? = some (.cells (tim 1 0 v' n') 37 (0, 0)) := by rw [hw3]; exact heap_setCell_same h1 _
        have t3 : w3.cell? ⟨T, 0, none⟩ = some (.int .i32 1) := cell_heap (o := 0) hT3 rfl
        have tf3 := frozen_heap (o := 0) hT3
        have HW3 := Hid.mk hw3
        clear hw3
        go_wp2_with fail
        refine (unlock_held Yba.muLib ⟨T, 0, none⟩ w3 t3 tf3).mono ?_
        rintro e w4 ⟨rfl, hw4⟩
        have hT4 : Hid (w4.heap[T]? = some (.cells (tim 0 0 v' n') 37 (0, 0))) := Hid.mk (by rw [hw4]; exact heap_setCell_same hT3 _)
        have hB4 : Hid (w4.heap[T + 1]? = some (.cells bat' 40 (0, 0))) := Hid.mk (by rw [hw4, HW3.out]; exact (Below.heap_setCell _ _ _ _ (show T + 1 ≠ T by omega)).trans ((Below.heap_setCell _ _ _ _ (show T + 1 ≠ T by omega)).trans h2))
        have hW4 : Hid (w4.heap[w.heap.size]? = some (.cells c 24 (0, 0))) := Hid.mk (by rw [hw4, HW3.out]; exact (Below.heap_setCell _ _ _ _ (show w.heap.size ≠ T by omega)).trans ((Below.heap_setCell _ _ _ _ (show w.heap.size ≠ T by omega)).trans h3))
        have hO4 : Hid (w4.ownsRow w.heap.size 2 1 v' ys.length (vals ys)) := Hid.mk (by rw [hw4, HW3.out]; exact owns_set (owns_set hown T 0 _ hvT) T 0 _ hvT)
        have hbel4 : Below w.heap.size w w4 := by rw [hw4, HW3.out]; exact (hbel.setCell (show w.heap.size ≤ T by omega) _).setCell (show w.heap.size ≤ T by omega) _
        have HV1 := Hid.mk hvT
        have HV2 := Hid.mk hvB
        have HWH := Hid.mk hwhich
        clear HW3 hw4 hT3 t3 tf3 t0 tf h1 h2 h3 hown hbel hvT hvB hwhich
        have c0 := cell_heap hB4.out hbat.tm
        have hld : (ld24 (.pointer (some ⟨w.heap.size, 0, none⟩))).run Yba.prog w4 = .ok (.agg c) w4 := run_ld24 _ _ 0 c D hD (fun i hi => by rw [Nat.zero_add]; exact cell_heap hW4.out (hD.2 i hi))
        have hst : ∀ z : Array Value, z.size = 64 → (st24 (.pointer (some ⟨w4.heap.size, 0, none⟩)) (.agg c)).run Yba.prog (w4.alloc (.cells z 24)) = .ok () (w4.alloc (.cells c 24)) := fun z hz => run_st24_new w4 z c D hz hD
        have k0 : (0 : Int) ≤ (k : Int) := by omega
        have k1 : (k : Int) < 64 := by omega
        have hpn := ptr_same T
        have hck := hD.2 k hk
        go_upto_region 22 with fail
        obtain ⟨cw, hcw⟩ : ∃ cw, cw = c.setIfInBounds k (.int .i64 dd) := ⟨_, rfl⟩
        obtain ⟨w5, hw5⟩ : ∃ w5, w5 = w4.alloc (.cells cw 24) := ⟨_, rfl⟩
        obtain ⟨X, hX⟩ : ∃ X, X = w4.heap.size := ⟨_, rfl⟩
        rw [← hcw, ← hw5, ← hX]
        have hDw : Ds cw (put D k dd) := by rw [hcw]; exact hD.set hk dd
        have hP63 : ∀ i, i < 64 → put D k dd i < 9223372036854775808 := fun i hi => by unfold put; split <;> first | exact hdd | exact hD63 i hi
        have hX5 : Hid (w5.heap[X]? = some (.cells cw 24 (0, 0))) := Hid.mk (by rw [hw5, hX]; exact heap_alloc_new _ _)
        have hT5 : Hid (w5.heap[T]? = some (.cells (tim 0 0 v' n') 37 (0, 0))) := Hid.mk (by rw [hw5]; exact heap_old hT4.out _)
        have hB5 : Hid (w5.heap[T + 1]? = some (.cells bat' 40 (0, 0))) := Hid.mk (by rw [hw5]; exact heap_old hB4.out _)
        have hO5 : Hid (w5.ownsRow w.heap.size 2 1 v' ys.length (vals ys)) := Hid.mk (by rw [hw5]; exact hO4.out.alloc _)
        have hbel5 : Below w.heap.size w w5 := by rw [hw5]; exact hbel4.alloc hbel4.size _
        clear hcw hw5 hX hT4 hB4 hW4 hO4 hbel4 hld hst c0 hck hpn
        have hl1 : ∀ nq, (ld24 (.pointer (some ⟨T + 1, 1, none⟩))).run Yba.prog (w5.drewN nq) = .ok (.agg cw) (w5.drewN nq) := fun nq => run_ld24 _ _ 1 cw _ hDw (fun i hi => cell_heap (w := w5) hB5.out (hbat.ds i hi))
        have hl2 : ∀ nq, (ld24 (.pointer (some ⟨X, 0, none⟩))).run Yba.prog (w5.drewN nq) = .ok (.agg cw) (w5.drewN nq) := fun nq => run_ld24 _ _ 0 cw _ hDw (fun i hi => by rw [Nat.zero_add]; exact cell_heap (w := w5) hX5.out (hDw.2 i hi))
        have heq := run_eq24 cw _ hDw
        go_quiet (fail)
        clear hl1 hl2 heq
        obtain ⟨b2, cap2, rfl, hcame2⟩ := came_of_owns hO5.out
        have HC2 := Hid.mk hcame2
        clear hcame2
        have c65 := cell_heap hB5.out hbat.cnt
        have t2 : w5.cell? ⟨T, 2, none⟩ = some (.slice b2 ys.length cap2) := cell_heap (o := 2) hT5.out rfl
        have t3 : w5.cell? ⟨T, 3, none⟩ = some (.int .i64 n') := cell_heap (o := 3) hT5.out rfl
        rcases HWH.out with ⟨hk63, rfl, rfl, rfl⟩ | ⟨hk63, rfl, rfl, hys⟩
        · clear HWH
          have hkb : decide ((k : Int) < 63) = true := by simp; omega
          have hkk : (((k + 1 : Nat) : Int) == (k : Int) + 1) = true := by simp
          have hkk2 : ((k : Int) + 1 == (k : Int) + 1) = true := by simp
          go_wp2_with fail
          refine (equal_any b2 b0 cap2 cb ys (w5.drewN nq) (by exact HC2.out) (HC.out.below (below_drewN hbel5 nq)) (by omega)).mono ?_
          rintro e w6 ⟨rfl, hb6⟩
          go_wp2_with fail
          go_ret
          exact ⟨rfl, (below_drewN hbel5 nq).trans (hb6.mono hbel5.size)⟩
        · clear HWH
          have hkb : decide ((k : Int) < 63) = false := by simp; omega
          have t3' : w5.cell? ⟨T, 3, none⟩ = some (.int .i64 (wrap64 (hn + 64))) := t3
          have hne : (wrap64 (hn + 64) != wrap64 (hn + 64)) = false := by simp
          have HK := Hid.mk hk63
          have HY := Hid.mk hys
          obtain ⟨P, hPP⟩ : ∃ P, P = put D k dd := ⟨_, rfl⟩
          rw [← hPP] at hbat hDw hP63 HY
          clear hk63 hys t3 hPP
          have hnl := bumps_length zs P hP63 hz
          go_wp2_with fail
          refine (clone_any w5.heap.size b0 cb zs (w5.drewN nq) (HC.out.below (below_drewN hbel5 nq)) hz (by exact Nat.le_refl _)).mono ?_
          rintro e w6 ⟨v3, rfl, hown6, hblk6, hb6⟩
          obtain ⟨b3, cap3, rfl, hcame3⟩ := came_of_owns hown6
          have hb6' : Below w5.heap.size w5 w6 := (below_drewN (Below.refl _ _) nq).trans hb6
          have HO6 := Hid.mk hown6
          clear hown6 hblk6 hb6 hcame3 t2 t3' c65
          go_wp2_with fail
          go_loopw [20, 21] (fun v i wr => ∃ (t : Nat), t ≤ 64 ∧ i = .int .i64 (t : Int) ∧ wr.ownsRow w5.heap.size 2 1 v (bumps zs P t).length (vals (bumps zs P t)) ∧ Below w5.heap.size w5 wr) (fun _ i _ => 64 - (intOf i).toNat)
          case atStart => exact ⟨0, by omega, rfl, HO6.out, hb6'⟩
          case round =>
            clear HO6 hb6'
            obtain ⟨t, ht, rfl, hown, hb⟩ := hrel
            obtain ⟨b4, cap4, rfl, hcame4⟩ := came_of_owns hown
            have HO := Hid.mk hown
            have HC4 := Hid.mk hcame4
            clear hown hcame4
            by_cases htl : t < 64
            · have e1 := cell_below hb (cell_heap hX5.out (hDw.2 t htl))
              have t0 : (0 : Int) ≤ (t : Int) := by omega
              have t1 : (t : Int) < 64 := by omega
              have hlt := hnl t ht
              go_wp2_with fail
              refine (zzbucket_any (P t) (hP63 t htl) wr).mono ?_
              rintro e w7 ⟨rfl, h7⟩
              subst w7
              obtain ⟨j, hj⟩ : ∃ j, buck (P t) = j := ⟨_, rfl⟩
              have hjl := buck_lt (P t) (hP63 t htl)
              rw [hj] at hjl ⊢
              have HJ := Hid.mk hj
              obtain ⟨cur, hcur⟩ : ∃ cur, bumps zs P t = cur := ⟨_, rfl⟩
              rw [hcur] at HO HC4 hlt ⊢
              have HCU := Hid.mk hcur
              clear hj hcur
              go_wp2_with fail
              obtain ⟨wv, rfl⟩ : ∃ x, x = wr := ⟨wr, rfl⟩
              go_loopw [20] (fun v wr => ∃ (r : Nat), cur.length + r ≤ max cur.length (j + 1) ∧ wr.ownsRow w5.heap.size 2 1 v (cur ++ List.replicate r (0 : Int)).length (vals (cur ++ List.replicate r (0 : Int))) ∧ Below w5.heap.size w5 wr) (fun v _ => j + 1 - lenV v)
              case atStart => exact ⟨0, by omega, by simpa using HO.out, hb⟩
              case round =>
                clear HO HC4 hb e1
                obtain ⟨r, hr, hown, hb⟩ := hrel
                have hroom := room_of cur j r hr
                obtain ⟨ns, hns⟩ : ∃ ns, cur ++ List.replicate r (0 : Int) = ns := ⟨_, rfl⟩
                have hnsl : ns.length = cur.length + r := by rw [← hns]; simp
                rw [hns] at hown hroom
                obtain ⟨b5, cap5, rfl, hcame5⟩ := came_of_owns hown
                have HO := Hid.mk hown
                have HNS := Hid.mk hns
                have HRM := Hid.mk hroom
                clear hown hcame5 hns hroom
                by_cases hnj : ns.length ≤ j
                · have hle1 : decide ((ns.length : Int) ≤ (j : Int)) = true := by simp; omega
                  have HNL := Hid.mk hnsl
                  clear hnsl
                  have hcell1 : ∀ i u, ([.int .i64 0] : List Value)[i]? = some u → (wr.alloc (.cells #[.int .i64 0] 2)).cell? ((⟨wr.heap.size, 0, none⟩ : Addr).add i) = some u := by
                    intro i u hu
                    match i, hu with
                    | 0, hu =>
                      simp at hu
                      subst hu
                      exact cell_heap (heap_alloc_new wr _) rfl
                    | i + 1, hu => simp at hu
                  have HC1 := Hid.mk hcell1
                  clear hcell1
                  have hone1 : ∀ u ∈ ([.int .i64 0] : List Value), u.oneCell' = true := vals_one [0]
                  go_wp2_with (at_builtin; refine wpList_append_own _ rfl _ _ 22 rfl w5.heap.size 2 i2 _ 1 8 Yba.underlying22 hi hz0 hz1 hz2 rfl (by omega) (.slice b5 ns.length cap5) ns.length (vals ns) rfl (by exact HO.out.alloc _) ⟨wr.heap.size, 0, none⟩ 1 1 [.int .i64 0] rfl rfl HC1.out hone1 (by unfold maxLen; omega) (by omega) (by exact Nat.le_trans hb.size (by simp)) ?_; intro v6 w7 ho6 hg6 hn6)
                  go_roundw
                  case rel =>
                    have hnl := HNL.out
                    have e : cur ++ List.replicate (r + 1) (0 : Int) = ns ++ [0] := by rw [← HNS.out, List.append_assoc, List.replicate_succ']
                    refine ⟨r + 1, by omega, ?_, ?_⟩
                    · rw [e, vals_append, List.length_append]
                      exact ho6
                    · exact below_grown (hb.alloc hb.size _) hg6 (Nat.le_trans hb.size (by simp)) (fun i hi => (HO.out.lt i hi).1)
                  case measure =>
                    have h1 := lenV_of ho6
                    show j + 1 - lenV v6 < j + 1 - ns.length
                    omega
                · have hle1 : decide ((ns.length : Int) ≤ (j : Int)) = false := by simp; omega
                  have hjn : j < ns.length := by omega
                  obtain ⟨g, rfl⟩ : ∃ g, b5 = some ⟨g, 0, none⟩ := by
                    rcases HO.out.2 with ⟨_, h0⟩ | ⟨g, cap, cu, h1, _⟩
                    · omega
                    · simp at h1; exact ⟨g, h1.1⟩
                  obtain ⟨x, hx⟩ : ∃ x, ns.getD j 0 = x := ⟨_, rfl⟩
                  have e4 : wr.cell? ⟨g, j, none⟩ = some (.int .i64 x) := by rw [HO.out.cellAt j (by omega), vals_at hjn, hx]
                  have f4 : wr.frozen? ⟨g, j, none⟩ = false := HO.out.frozenAt j
                  have j0 : (0 : Int) ≤ (j : Int) := by omega
                  have j1 : (j : Int) < (ns.length : Int) := by omega
                  have HST := Hid.mk (HO.out.stored j (.int .i64 (wrap64 (x + 1))))
                  have HX := Hid.mk hx
                  clear hx hnsl
                  go_wp2_with fail
                  go_roundw
                  case rel =>
                    have hbump : bumps zs P (t + 1) = ns.set j (wrap64 (x + 1)) := by
                      rw [bumps, HCU.out, HJ.out]
                      unfold bump
                      rw [← HRM.out hjn, HX.out]
                    refine ⟨t + 1, by omega, by go_num, ?_, ?_⟩
                    · rw [hbump, vals_set, List.length_set]
                      exact HST.out.1
                    · exact hb.setCell (show w5.heap.size ≤ g from (HO.out.lt g rfl).1) _
                  case measure => simp [intOf]; omega
            · obtain rfl : t = 64 := by omega
              have t2 : wr.cell? ⟨T, 2, none⟩ = some (.slice b2 ys.length cap2) := cell_below hb (cell_heap (o := 2) hT5.out rfl)
              have hyl : ys.length = (bumps zs P 64).length := by rw [HY.out]
              have hlq : (((bumps zs P 64).length : Int) == ((bumps zs P 64).length : Int)) = true := by simp
              have hcA : Came wr b2 (bumps zs P 64) := by rw [← HY.out]; exact HC2.out.below hb
              have hl64 := hnl 64 (Nat.le_refl _)
              have HA := Hid.mk hcA
              clear hcA
              rw [hyl] at t2
              go_wp2_with fail
              refine (equal_any b2 b4 cap2 cap4 (bumps zs P 64) wr HA.out HC4.out (by omega)).mono ?_
              rintro e w8 ⟨rfl, hb8⟩
              go_wp2_with fail
              go_ret
              exact ⟨rfl, (hbel5.trans (hb.mono hbel5.size)).trans (hb8.mono (Nat.le_trans hbel5.size hb.size))⟩
end Go.Proofs.Ybulkdzho
