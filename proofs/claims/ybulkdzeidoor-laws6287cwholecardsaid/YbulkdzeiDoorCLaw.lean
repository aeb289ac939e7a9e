/-
  THE LAW S6287C, at no more than 4096 steps.
-/
import Derived.Test.YbulkdzeiDoorCLawS
namespace Go.Proofs.YbulkdzeiDoor.C
open Go Go.RowKit
open Go.Proofs.YbulkdzeiDoor.A (fbits ffrom run_store_float)
attribute [local go_sem] run_store_float setCell_drewN alloc_drewN fi_of

/-- The script as it came in. -/
structure OpsAt (w : World) (a0 : Option Addr) (n : Nat) (P X Y : Nat → Nat) : Prop where
  cells : ∀ i, i < n → ∃ b o, a0 = some ⟨b, o, none⟩ ∧ w.cell? ⟨b, o + i * 3, none⟩ = some (.int .u8 (P i : Int)) ∧ w.cell? ⟨b, o + i * 3 + 1, none⟩ = some (.int .u8 (X i : Int)) ∧ w.cell? ⟨b, o + i * 3 + 2, none⟩ = some (.int .u8 (Y i : Int)) ∧ P i < 256 ∧ X i < 256 ∧ Y i < 256
theorem OpsAt.below {w w' : World} {a0 : Option Addr} {n : Nat} {P X Y : Nat → Nat} (h : OpsAt w a0 n P X Y) (hb : Below w.heap.size w w') : OpsAt w' a0 n P X Y :=
  ⟨fun i hi => by obtain ⟨b, o, h0, h1, h2, h3, h4⟩ := h.cells i hi; exact ⟨b, o, h0, cell_below hb h1, cell_below hb h2, cell_below hb h3, h4⟩⟩

theorem ls_start {w : World} (d : Int) (hd : d.natAbs ≤ 200) : LS w (w.alloc (.cells #[.slice none 0 0, .slice none 0 0, .slice none 0 0, .slice none 0 0, .slice none 0 0, .int .i64 0, .int .i64 0] 52)) 0 0 (fun _ => 0) (fun _ => 0) 0 (.slice none 0 0) (.slice none 0 0) d := by
  have hb : Below w.heap.size w (w.alloc (.cells #[.slice none 0 0, .slice none 0 0, .slice none 0 0, .slice none 0 0, .slice none 0 0, .int .i64 0, .int .i64 0] 52)) := (Below.refl _ _).alloc (Nat.le_refl _) _
  exact
    { gs := ⟨.slice none 0 0, .slice none 0 0, .slice none 0 0, .slice none 0 0, .slice none 0 0, fun _ => undef, fun _ => 0,
        { hg := by rw [sm_self _ _ _ (Nat.le_refl _)]; exact heap_alloc_new _ _
          rd := World.ownsRow_nil _ _ _ _, rl := World.ownsRow_nil _ _ _ _, rt := World.ownsRow_nil _ _ _ _, rs := ⟨[], World.ownsRow_nil _ _ _ _, fun _ h => absurd h (Nat.not_lt_zero _)⟩
          rp := fun _ h => absurd h (Nat.not_lt_zero _), rm := ⟨0, .inl ⟨rfl, rfl⟩⟩, lt := fun b h => by simp [Value.ownBlock] at h
          nk := fun b h => by
            rcases h with h | h | h
            · exact ⟨by omega, by simp [Value.ownBlock], by simp [Value.ownBlock], by simp [Value.ownBlock], by simp [Value.ownBlock]⟩
            · simp [Value.ownBlock] at h
            · simp [Value.ownBlock] at h
          bg := Nat.le_refl _
          kl := fun b h => by
            rcases h with h | h | h
            · simp; omega
            · simp [Value.ownBlock] at h
            · simp [Value.ownBlock] at h
          k0 := fun b h => .inl h
          kb := hb.size }⟩
      rd := World.ownsRow_nil _ _ _ _, rl := World.ownsRow_nil _ _ _ _, bel := hb, nj := Nat.le_refl _, fn := Nat.le_refl _
      mo := fun _ _ _ h => absurd h (Nat.not_lt_zero _), dd := fun _ h => absurd h (Nat.not_lt_zero _), bD := fun _ h => absurd h (Nat.not_lt_zero _), bd := by omega, l5 := fun _ h => absurd h (Nat.not_lt_zero _) }

set_option maxRecDepth 100000 in
set_option maxHeartbeats 4000000 in
theorem law_any (N cap : Nat) (a0 : Option Addr) (P X Y : Nat → Nat) (bs ts lim : Int) (aa : Nat) (w : World) (hN : N ≤ 4096) (hO : OpsAt w a0 N P X Y) (hbs : -128 ≤ bs ∧ bs ≤ 127) (hts : -128 ≤ ts ∧ ts ≤ 127) (haa : aa ≤ 255) (hlim : -2147483648 ≤ lim ∧ lim ≤ 2147483647) (htab : Tab w) (h2 : 2 < w.heap.size) :
    Calls Ybad.prog 4 #[.int .i8 bs, .slice a0 N cap, .int .i8 ts, .int .u8 aa, .int .i32 lim] w fun e w' => e = .returned (.bool true) ∧ Below w.heap.size w w' := by
  have HO := Hid.mk hO
  have HTAB := Hid.mk htab
  clear hO htab
  have hnle : decide ((4096 : Int) < (N : Int)) = false := by simp; omega
  have hnle' : ¬ ((4096 : Int) < (N : Int)) := by omega
  go_enter Ybad.func4, Ybad.ntmps4
  go_wp2_with fail
  have HST : Hid (LS w (w.alloc (.cells #[.slice none 0 0, .slice none 0 0, .slice none 0 0, .slice none 0 0, .slice none 0 0, .int .i64 0, .int .i64 0] 52)) 0 0 (fun _ => 0) (fun _ => 0) 0 (.slice none 0 0) (.slice none 0 0) bs) := ls_start bs (by omega)
  clear hnle hnle'
  go_loopw [12, 13, 14, 15, 16, 18, 19, 20, 21, 44] (fun dlv lvv fv tv dv _ _ _ _ i wr => ∃ (j n : Nat) (D : Nat → Int) (L : Nat → Nat) (fst : Nat) (d : Int), j ≤ N ∧ i = .int .i64 (j : Int) ∧ fv = .int .i64 (fst : Int) ∧ tv = .int .i64 ((sm L 0 n : Nat) : Int) ∧ dv = .float .f64 (fi d) ∧ LS w wr j n D L fst dlv lvv d) (fun _ _ _ _ _ _ _ _ _ i _ => N - (intOf i).toNat)
  case atStart => exact ⟨0, 0, _, _, 0, bs, by omega, rfl, rfl, by rw [sm_self _ _ _ (Nat.le_refl _)]; rfl, rfl, HST.out⟩
  case round =>
    clear HST
    obtain ⟨j, n, D, L, fst, d, hj, rfl, rfl, rfl, rfl, hls⟩ := hrel
    by_cases hjN : j < N
    · --[[1
      obtain ⟨b, o, rfl, c1, c2, c3, p256, x256, y256⟩ := (HO.out.below hls.bel).cells j hjN
      obtain ⟨p, hp⟩ : ∃ p, P j = p := ⟨_, rfl⟩
      obtain ⟨x, hx⟩ : ∃ p, X j = p := ⟨_, rfl⟩
      obtain ⟨y, hy⟩ : ∃ p, Y j = p := ⟨_, rfl⟩
      rw [hp] at c1 p256
      rw [hx] at c2 x256
      rw [hy] at c3 y256
      have j0 : (0 : Int) ≤ (j : Int) := by omega
      have j1 : (j : Int) < (N : Int) := by omega
      obtain ⟨e1, f1, hdl⟩ := own_form hls.rd
      obtain ⟨e2, f2, hlv⟩ := own_form hls.rl
      have HLS := Hid.mk hls
      have hn4 : n ≤ 4096 := by have := hls.nj; omega
      have hdb : d.natAbs ≤ 20000 := by have := hls.bd; omega
      subst hdl hlv
      clear hls hp hx hy
      go_upto_region 11 with fail
      obtain ⟨wa, hwa⟩ : ∃ q, q = wr.alloc (.cells #[.int .u8 (p : Int), .int .u8 (x : Int), .int .u8 (y : Int)] 54) := ⟨_, rfl⟩
      rw [← hwa]
      have hba : Below wr.heap.size wr wa := by rw [hwa]; exact below_al _ _
      have hA : wa.heap[wr.heap.size]? = some (.cells #[.int .u8 (p : Int), .int .u8 (x : Int), .int .u8 (y : Int)] 54 (0, 0)) := by rw [hwa]; exact heap_alloc_new _ _
      have HLA := Hid.mk (HLS.out.below hba)
      obtain ⟨q, hq⟩ : ∃ q, wr.heap.size = q := ⟨_, rfl⟩
      rw [hq] at hA ⊢
      have HQ : Hid (∀ b, KL w.heap.size (.slice e1 n f1) (.slice e2 n f2) b → b ≠ q) := fun b hb e => by have := KL.lt HLS.out b hb; omega
      have k0 := cell_heap hA (show (#[.int .u8 (p : Int), .int .u8 (x : Int), .int .u8 (y : Int)] : Array Value)[0]? = some (.int .u8 (p : Int)) from rfl)
      have k1 := cell_heap hA (show (#[.int .u8 (p : Int), .int .u8 (x : Int), .int .u8 (y : Int)] : Array Value)[1]? = some (.int .u8 (x : Int)) from rfl)
      have k2 := cell_heap hA (show (#[.int .u8 (p : Int), .int .u8 (x : Int), .int .u8 (y : Int)] : Array Value)[2]? = some (.int .u8 (y : Int)) from rfl)
      clear hwa hba hA hq c1 c2 c3
      have h3 : p % 3 = 0 ∨ p % 3 = 1 ∨ p % 3 = 2 := by omega
      rcases h3 with h3 | h3 | h3
      · --[[A
        have r1 : (p : Int) % 3 = 0 := by omega
        obtain ⟨x5, hx5⟩ : ∃ q, x % 5 = q := ⟨_, rfl⟩
        obtain ⟨y6, hy6⟩ : ∃ q, y % 6 = q := ⟨_, rfl⟩
        have i5 : (x : Int) % 5 = (x5 : Int) := by omega
        have i6 : (y : Int) % 6 = (y6 : Int) := by omega
        have b5 : x5 ≤ 4 := by omega
        have b6 : y6 ≤ 5 := by omega
        have hadd := run_add_fi (n := d) (m := (x5 : Int)) (by omega) (by omega) 24
        obtain ⟨d', hd'⟩ : ∃ q, d + (x5 : Int) = q := ⟨_, rfl⟩
        rw [hd'] at hadd
        have HD' := Hid.mk hd'
        clear h3 hx5 hy6 hd'
        go_wp2_with fail
        obtain ⟨vd, vl, vt, vs, vm, pv, pm, hg⟩ := HLA.out.gs
        have hjs : j ≤ 4096 := by omega
        refine (addc_any (d := d') hn4 hjs b6 HLA.out.l5 (HTAB.out.below (HLA.out.bel.block 2 h2)) (.inl h2) hg).mono ?_
        rintro e w1 ⟨rfl, hend⟩
        have hrows := HLA.out.rows (by obtain ⟨_, _, _, _, _, _, _, _, hk⟩ := hend; exact hk)
        have hs1 : w.heap.size ≤ w1.heap.size := hrows.2.2.size
        have hb2 := below_al w1 (.cells #[.float .f64 (fi d')] 24)
        obtain ⟨dl', w3, hrun1, ho3, hg3, ha3⟩ := app24 (w1.alloc (.cells #[.float .f64 (fi d')] 24)) w.heap.size n w1.heap.size D d' (.slice e1 n f1) (by omega) (own_heap hrows.1 (fun b hb => hb2.block b (hrows.1.lt b hb).2)) (Nat.le_trans hs1 hb2.size) (heap_alloc_new _ _)
        obtain ⟨e3, f3, hdl'⟩ := own_form ho3
        subst hdl'
        have hlv3 : w3.ownsRow w.heap.size 3 1 (.slice e2 n f2) n (nl L n) := own_heap (own_heap hrows.2.1 (fun b hb => hb2.block b (hrows.2.1.lt b hb).2)) (fun b hb => by
          have hlt := (hrows.2.1.lt b hb).2
          obtain ⟨_, _, _, a4, _⟩ := own_block hrows.2.1 b hb
          exact hg3.block b (Nat.lt_of_lt_of_le hlt hb2.size) (fun e => own_ne hrows.1 a4 (by decide) e.symm))
        have hb4 := below_al w3 (.cells #[.int .i64 (y6 : Int)] 3)
        obtain ⟨lv', w5, hrun2, ho5, hg5, ha5⟩ := app3 (w3.alloc (.cells #[.int .i64 (y6 : Int)] 3)) w.heap.size n w3.heap.size y6 L (.slice e2 n f2) (by omega) (own_heap hlv3 (fun b hb => hb4.block b (hlv3.lt b hb).2)) (Nat.le_trans (Nat.le_trans hs1 hb2.size) (Nat.le_trans hg3.size hb4.size)) (heap_alloc_new _ _)
        obtain ⟨e4, f4, hlv'⟩ := own_form ho5
        subst hlv'
        have hsm := sm_small HLA.out.l5 hn4 0 n (Nat.le_refl _)
        have hsm2 : sm (upd L n y6) 0 (n + 1) = sm L 0 n + y6 := by
          rw [sm_succ _ _ _ (by omega), upd_at]
          congr 1
          exact sm_congr (fun j _ h2 => upd_ne _ _ (by omega))
        have HFIN : Hid (LS w w5 (j + 1) (n + 1) (upd D n d') (upd L n y6) fst (.slice e3 (n + 1) f3) (.slice e4 (n + 1) f4) d') := HLA.out.added (by have := HD'.out; omega) (by have := HD'.out; have := HLA.out.bd; omega) b6 hend hb2 ho3 hg3 ha3 hb4 ho5 hg5 ha5
        have HRUN1 := Hid.mk hrun1
        have HRUN2 := Hid.mk hrun2
        have HS2 := Hid.mk hsm2
        clear hend hrows hs1 hb2 ho3 hg3 ha3 hlv3 hb4 ho5 hg5 ha5 hrun1 hrun2 hsm2 hg k0 k1 k2 hadd
        obtain ⟨S0, hS0⟩ : ∃ q, sm L 0 n = q := ⟨_, rfl⟩
        rw [hS0] at hsm HS2 ⊢
        clear hS0
        go_wp2_with (first | (at_builtin; refine Go.Lib.wpList_append_run _ rfl _ _ 22 22 rfl _ _ rfl rfl _ w3 HRUN1.out ?_) | (at_builtin; refine Go.Lib.wpList_append_run _ rfl _ _ 37 37 rfl _ _ rfl rfl _ w5 HRUN2.out ?_))
        go_roundw
        case rel => exact ⟨j + 1, n + 1, _, _, fst, d', by omega, by go_num, rfl, by rw [HS2.out]; go_num, rfl, HFIN.out⟩
        case measure => simp [intOf]; omega
        --]]A
      · --[[B
        have r1 : (p : Int) % 3 = 1 := by omega
        clear h3
        by_cases hn0 : n = 0
        · have hz : ¬ ((0 : Int) < (n : Int)) := by omega
          have hzd : decide ((0 : Int) < (n : Int)) = false := by simp; omega
          have HFIN := Hid.mk HLA.out.idle
          have HN0 := Hid.mk hn0
          clear hn0
          go_wp2_with fail
          go_roundw
          case rel => exact ⟨j + 1, n, D, L, fst, d, by omega, by go_num, rfl, rfl, rfl, HFIN.out⟩
          case measure => simp [intOf]; omega
        · obtain ⟨ii, hii⟩ : ∃ q, x % n = q := ⟨_, rfl⟩
          have hin : ii < n := by rw [← hii]; exact Nat.mod_lt _ (by omega)
          have i1 : (x : Int) % (n : Int) = (ii : Int) := by rw [← hii]; omega
          have i2 : (0 : Int) ≤ (ii : Int) := by omega
          have i3 : (ii : Int) < (n : Int) := by omega
          have i4 : (0 : Int) < (n : Int) := by omega
          have i5 : decide ((0 : Int) < (n : Int)) = true := by simp; omega
          have i6 : ¬ (n : Int) = 0 := by omega
          obtain ⟨bl, cl, cu, hlv, l2, -⟩ := own_cell HLA.out.rl (nl_get L hin)
          cases hlv
          have hL5 := HLA.out.l5 ii hin
          obtain ⟨l, hl⟩ : ∃ q, L ii = q := ⟨_, rfl⟩
          rw [hl] at l2 hL5
          have HL := Hid.mk hl
          clear hii hl hn0
          by_cases hl0 : l = 0
          · subst hl0
            have HFIN := Hid.mk HLA.out.idle
            go_wp2_with fail
            go_roundw
            case rel => exact ⟨j + 1, n, D, L, fst, d, by omega, by go_num, rfl, rfl, rfl, HFIN.out⟩
            case measure => simp [intOf]; omega
          · have x1 : (0 : Int) < (l : Int) := by omega
            have x2 : decide ((0 : Int) < (l : Int)) = true := by simp; omega
            go_wp2_with fail
            obtain ⟨vd, vl, vt, vs, vm, pv, pm, hg⟩ := HLA.out.gs
            refine (end_any ii j hin hn4 (by omega) HLA.out.l5 (by rw [HL.out]; omega) hg).mono ?_
            rintro e w1 ⟨rfl, hend⟩
            have hrows := HLA.out.rows (by obtain ⟨_, _, _, _, _, _, _, _, hk⟩ := hend; exact hk)
            obtain ⟨bl', cl', cu', hlv', m2, m3, -⟩ := own_cell hrows.2.1 (nl_get L hin)
            cases hlv'
            rw [HL.out] at m2
            have HFIN := Hid.mk (HLA.out.ended (b := bl) rfl hend)
            rw [HL.out] at HFIN
            have hsum := sm_dec L ii 0 n (by rw [HL.out]; omega)
            rw [if_pos ⟨Nat.zero_le _, hin⟩] at hsum
            have hpos := hsum.2 ⟨Nat.zero_le _, hin⟩
            have HS : Hid (((sm (dec L ii) 0 n : Nat) : Int) = ((sm L 0 n : Nat) : Int) - 1) := Hid.mk (by rw [hsum.1]; omega)
            have hsm := sm_small HLA.out.l5 hn4 0 n (Nat.le_refl _)
            have z1 : IntKind.i64.wrap ((l : Int) - 1) = (l : Int) - 1 := by rw [IntKind.wrap_i64]; omega
            have z2 : (l : Int) - 1 = ((l - 1 : Nat) : Int) := by omega
            have HZ2 := Hid.mk z2
            clear hend hrows hg hsum k0 k1 k2 z2 l2
            obtain ⟨S0, hS0⟩ : ∃ q, sm L 0 n = q := ⟨_, rfl⟩
            rw [hS0] at hsm hpos HS ⊢
            clear hS0
            have z3 : IntKind.i64.wrap ((S0 : Int) - 1) = (S0 : Int) - 1 := by rw [IntKind.wrap_i64]; omega
            go_wp2_with fail
            go_roundw
            case rel => exact ⟨j + 1, n, D, dec L ii, fst, d, by omega, by go_num, rfl, by rw [HS.out], rfl, by have := HFIN.out; rw [← HZ2.out] at this; exact this⟩
            case measure => simp [intOf]; omega
        --]]B
      · --[[C
        have r1 : (p : Int) % 3 = 2 := by omega
        obtain ⟨x12, hx12⟩ : ∃ q, x % 12 = q := ⟨_, rfl⟩
        have i12 : (x : Int) % 12 = (x12 : Int) := by omega
        have b12 : x12 ≤ 11 := by omega
        have hadd := run_add_fi (n := d) (m := (x12 : Int) - 6) (by omega) (by omega) 24
        obtain ⟨pp, hpp⟩ : ∃ q, d + ((x12 : Int) - 6) = q := ⟨_, rfl⟩
        rw [hpp] at hadd
        have hpb : pp.natAbs < 100000 := by omega
        have x6 : IntKind.i64.wrap ((x12 : Int) - 6) = (x12 : Int) - 6 := by rw [IntKind.wrap_i64]; omega
        clear h3 hx12 hpp
        go_wp2_with fail
        obtain ⟨vd, vl, vt, vs, vm, pv, pm, hg⟩ := HLA.out.gs
        have hDb : ∀ i, i < n → (D i).natAbs < 100000 := fun i hi => by have := HLA.out.bD i hi; omega
        refine (pass_any pp hpb hn4 HLA.out.fn hDb hg).mono ?_
        rintro e w1 ⟨rfl, f', hf', hadv, hg', hk'⟩
        have hL1 := HLA.out.passed hf' hg' hk'
        have HL1 := Hid.mk hL1
        have HADV := Hid.mk hadv
        have HDB := Hid.mk hDb
        clear hg hg' hk' hadv hL1 k0 k1 k2 hadd hDb
        go_wp2_with fail
        go_loopw [14] (fun fv wr => ∃ f : Nat, fv = .int .i64 (f : Int) ∧ fst ≤ f ∧ f ≤ n ∧ (∀ i, fst ≤ i → i < f → i < n ∧ D i ≤ pp) ∧ wr = w1) (fun fv _ => n - (intOf fv).toNat)
        case atStart => exact ⟨fst, rfl, Nat.le_refl _, HLA.out.fn, fun i h1 h2 => by omega, rfl⟩
        case round =>
          obtain ⟨f, rfl, hf1, hf2, hall, hw⟩ := hrel
          rw [hw]
          clear hw
          have HALL := Hid.mk hall
          clear hall
          by_cases hfn : f < n
          · obtain ⟨bd, cd, cu, hdl, d2, -⟩ := own_cell HL1.out.rd (fl_get D hfn)
            cases hdl
            have f0 : (0 : Int) ≤ (f : Int) := by omega
            have f3 : (f : Int) < (n : Int) := by omega
            have hle : (FloatKind.f64.format.order (fi (D f)) (fi pp) == some Ordering.lt || FloatKind.f64.format.order (fi (D f)) (fi pp) == some Ordering.eq) = decide (D f ≤ pp) := fleq (by have := HDB.out f hfn; omega) (by omega)
            by_cases hDp : D f ≤ pp
            · rw [decide_eq_true hDp] at hle
              have HDP := Hid.mk hDp
              clear hDp
              go_wp2_with fail
              go_roundw
              case rel => exact ⟨f + 1, by go_num, by omega, by omega, fun i h1 h2 => by
                by_cases hif : i = f
                · subst hif; exact ⟨hfn, HDP.out⟩
                · exact HALL.out i h1 (by omega), by first | rfl | trivial⟩
              case measure => simp [intOf]; omega
            · rw [decide_eq_false hDp] at hle
              have hff : f = f' := Adv.one (D := D) (n := n) (p := pp) (f := fst) ⟨hf1, HALL.out, fun _ => by omega⟩ HADV.out
              have HFF := Hid.mk hff
              clear hff hDp
              go_wp2_with fail
              go_roundw
              case rel => exact ⟨j + 1, n, D, L, f, d, by omega, by go_num, rfl, rfl, rfl, by rw [HFF.out]; exact HL1.out.idle⟩
              case measure => simp [intOf]; omega
          · have f3 : ¬ ((f : Int) < (n : Int)) := by omega
            have f4 : decide ((f : Int) < (n : Int)) = false := by simp; omega
            have hff : f = f' := Adv.one (D := D) (n := n) (p := pp) (f := fst) ⟨hf1, HALL.out, fun h => absurd h hfn⟩ HADV.out
            have HFF := Hid.mk hff
            clear hff
            go_wp2_with fail
            go_roundw
            case rel => exact ⟨j + 1, n, D, L, f, d, by omega, by go_num, rfl, rfl, rfl, by rw [HFF.out]; exact HL1.out.idle⟩
            case measure => simp [intOf]; omega
        --]]C
      --]]1
    · obtain rfl : j = N := by omega
      have hn4 : n ≤ 4096 := by have := hls.nj; omega
      obtain ⟨t, ht⟩ : ∃ q, bs + ts = q := ⟨_, rfl⟩
      have htb : t.natAbs < 1000 := by omega
      have hadd := run_add_fi (n := bs) (m := ts) (by omega) (by omega) 24
      rw [ht] at hadd
      obtain ⟨k, hk⟩ : ∃ q, aa % 16 + 1 = q := ⟨_, rfl⟩
      have hk1 : 0 < k := by omega
      have hk2 : k ≤ 16 := by omega
      have hq4 : ∀ w : World, (binOp .quo 24 (.float .f64 (fi (k : Int))) (.float .f64 4616189618054758400)).run Ybad.prog w = .ok (.float .f64 (q4 k)) w := fun w => by simp [binOp, Op.floatArith, (q4_div k hk1 hk2).1]
      have u1 : (aa : Int) % 16 + 1 = (k : Int) := by omega
      have u2 : IntKind.u8.wrap ((aa : Int) % 16 + 1) = (k : Int) := by rw [u1, IntKind.wrap_u8]; omega
      have hlb : lim.natAbs ≤ 3000000000 := by omega
      obtain ⟨e1, f1, hdl⟩ := own_form hls.rd
      obtain ⟨e2, f2, hlv⟩ := own_form hls.rl
      subst hdl hlv
      obtain ⟨vd, vl, vt, vs, vm, pv, pm, hg⟩ := hls.gs
      obtain ⟨e3, f3, hvd⟩ := own_form hg.rd
      obtain ⟨e4, f4, hvl⟩ := own_form hg.rl
      obtain ⟨e5, f5, hvt⟩ := own_form hg.rt
      subst hvd hvl hvt
      have c0 : wr.cell? ⟨w.heap.size, 0, none⟩ = some (.slice e3 n f3) := cell_heap hg.hg rfl
      have HLS := Hid.mk hls
      have HG := Hid.mk hg
      clear hls hg ht hk hj hjN
      go_wp2_with fail
      refine (cloneF_any n w.heap.size _ (fl D n) _ (by omega) HG.out.rd (fl_one _ _)).mono ?_
      rintro e w1 ⟨dc, rfl, ho1, hb1⟩
      obtain ⟨g1, h1', hdc⟩ := own_form ho1
      subst hdc
      have HDC := Hid.mk (VRow.fl ho1)
      have HLS1 := Hid.mk (HLS.out.below hb1)
      have HG1 := Hid.mk (GT.of_below HG.out hb1)
      have c1 : w1.cell? ⟨w.heap.size, 1, none⟩ = some (.slice e4 n f4) := cell_heap HG1.out.hg rfl
      clear ho1 hb1 c0 HLS HG
      go_wp2_with fail
      refine (cloneI_any n w.heap.size _ (nl L n) _ (by omega) HG1.out.rl (nl_one _ _)).mono ?_
      rintro e w2 ⟨lc', rfl, ho2, hb2⟩
      obtain ⟨g2, h2', hlc⟩ := own_form ho2
      subst hlc
      have HLC := Hid.mk (VRow.nl ho2)
      have HDC2 := Hid.mk (HDC.out.below hb2)
      have HLS2 := Hid.mk (HLS1.out.below hb2)
      have HG2 := Hid.mk (GT.of_below HG1.out hb2)
      have c2 : w2.cell? ⟨w.heap.size, 2, none⟩ = some (.slice e5 n f5) := cell_heap HG2.out.hg rfl
      clear ho2 hb2 c1 HLS1 HG1 HDC
      go_wp2_with fail
      refine (cloneI_any n w.heap.size _ (nl (fun i => node L (i + 1)) n) _ (by omega) HG2.out.rt (nl_one _ _)).mono ?_
      rintro e w3 ⟨tc, rfl, ho3, hb3⟩
      obtain ⟨g3, h3', htc⟩ := own_form ho3
      subst htc
      have HTC := Hid.mk (VRow.nl ho3)
      have HDC3 := Hid.mk (HDC2.out.below hb3)
      have HLC3 := Hid.mk (HLC.out.below hb3)
      have HLS3 := Hid.mk (HLS2.out.below hb3)
      have HG3 := Hid.mk (GT.of_below HG2.out hb3)
      have c5 : w3.cell? ⟨w.heap.size, 5, none⟩ = some (.int .i64 ((sm L 0 n : Nat) : Int)) := cell_heap HG3.out.hg rfl
      have c6 : w3.cell? ⟨w.heap.size, 6, none⟩ = some (.int .i64 (fst : Int)) := cell_heap HG3.out.hg rfl
      obtain ⟨S0, hS0⟩ : ∃ q, sm L 0 n = q := ⟨_, rfl⟩
      rw [hS0] at c5
      have HS0 := Hid.mk hS0
      clear ho3 hb3 c2 HLS2 HG2 HDC2 HLC
      rw [hS0]
      clear hS0
      go_wp2_with fail
      go_quiet (fail)
      go_wp2_with fail
      have hbn : Below w3.heap.size w3 (w3.drewN nq) := below_drewN (Below.refl _ _) _
      have hDb : ∀ i, i < n → (D i).natAbs < 100000 := fun i hi => by have := HLS3.out.bD i hi; omega
      have HDB := Hid.mk hDb
      refine (poss_any t lim k hn4 HLS3.out.fn htb hk1 hk2 hlb hDb HLS3.out.mo HLS3.out.l5 (GT.of_below HG3.out hbn)).mono ?_
      rintro e w4 ⟨r, rfl, hr1, hr2, hb4⟩
      have hb34 : Below w3.heap.size w3 w4 := hbn.trans hb4
      have HTC4 := Hid.mk (HTC.out.below hb34)
      have HDC4 := Hid.mk (HDC3.out.below hb34)
      have HLC4 := Hid.mk (HLC3.out.below hb34)
      have HLS4 := Hid.mk (HLS3.out.below hb34)
      have HG4 := Hid.mk (GT.of_below HG3.out hb34)
      have hSb := lc_small (a := fst) (C := fun j => cnt t k (D j)) HLS4.out.l5 (fun i hi => cnt_le (by have := HDB.out i hi; omega)) hn4
      obtain ⟨S, hS⟩ : ∃ q, sm (lc L (fun j => cnt t k (D j))) fst n = q := ⟨_, rfl⟩
      rw [hS] at hr1 hr2 hSb
      have HS := Hid.mk hS
      have HR2 := Hid.mk hr2
      clear hbn hb4 hb34 hDb c5 c6 hS hr2 HTC HDC3 HLC3 HLS3 HG3 hadd hq4 u1 u2
      go_wp2_with fail
      go_loopw [31, 32, 33] (fun sv kv _ wr => ∃ (kk a : Nat), fst ≤ kk ∧ kk ≤ n ∧ kv = .int .i64 (kk : Int) ∧ sv = .float .f64 (fi (a : Int)) ∧ a = sm (lc L (fun j => cnt t k (D j))) fst kk ∧ wr = w4) (fun _ kv _ _ => n - (intOf kv).toNat)
      case atStart => exact ⟨fst, 0, Nat.le_refl _, HLS4.out.fn, rfl, by rw [show ((0 : Nat) : Int) = 0 from rfl, fi_zero], (sm_self _ _ _ (Nat.le_refl _)).symm, rfl⟩
      case round =>
        obtain ⟨kk, a, hk3, hk4, rfl, rfl, ha, hw⟩ := hrel
        rw [hw]
        clear hw
        have HA := Hid.mk ha
        clear ha
        by_cases hkn : kk < n
        · --[[2
          obtain ⟨bd, cd, cu, hdl, d2, -⟩ := own_cell HLS4.out.rd (fl_get D hkn)
          cases hdl
          obtain ⟨bl, cl, cu', hlv, l2, -⟩ := own_cell HLS4.out.rl (nl_get L hkn)
          cases hlv
          have hDk := HDB.out kk hkn
          have h1 := run_sub_fi (n := D kk) (m := t) (by omega) (by omega) 24
          have h2 := run_max_fi (x := D kk - t) (by omega)
          obtain ⟨q, h3, h4⟩ := quo_fi (D kk - t).toNat k (by omega) hk1 hk2
          have hcb := cnt_le (t := t) (k := k) (d := D kk) (by omega)
          have hL5 := HLS4.out.l5 kk hkn
          have hab : a ≤ 20000000000 := by
            rw [HA.out]
            exact lc_small (fun i hi => HLS4.out.l5 i (by omega)) (fun i hi => cnt_le (by have := HDB.out i (by omega); omega)) (by omega)
          have hnext : sm (lc L (fun j => cnt t k (D j))) fst (kk + 1) = a + L kk * cnt t k (D kk) := by
            rw [sm_succ _ _ _ hk3, ← HA.out]; rfl
          obtain ⟨c, hc⟩ : ∃ c, cnt t k (D kk) = c := ⟨_, rfl⟩
          rw [hc] at hcb hnext
          unfold cnt at hc
          obtain ⟨x, hx⟩ : ∃ x, (D kk - t).toNat = x := ⟨_, rfl⟩
          rw [hx] at h2 h3 h4 hc
          rw [hc] at h4
          obtain ⟨l, hl⟩ : ∃ q, L kk = q := ⟨_, rfl⟩
          rw [hl] at l2 hL5 hnext
          have hlc : l * c ≤ 5 * 800000 := Nat.mul_le_mul hL5 hcb
          have hlci : (l : Int) * (c : Int) < 1000000000000 := by
            have h : ((l * c : Nat) : Int) ≤ 4000000 := by omega
            rw [Int.natCast_mul] at h
            omega
          have hmul := run_mul_fi (n := (l : Int)) (m := (c : Int)) (by omega) (by omega) (by omega) (by omega) hlci 24
          obtain ⟨p, hp⟩ : ∃ x, l * c = x := ⟨_, rfl⟩
          have hpp : (l : Int) * (c : Int) = (p : Int) := by rw [← hp, Int.natCast_mul]
          rw [hpp] at hmul
          have hadd := run_add_fi (n := (a : Int)) (m := (p : Int)) (by omega) (by omega) 24
          rw [hp] at hnext hlc
          have HNX := Hid.mk hnext
          have hap : (a : Int) + (p : Int) = ((a + p : Nat) : Int) := by omega
          have HAP := Hid.mk hap
          have k0 : (0 : Int) ≤ (kk : Int) := by omega
          have k1 : (kk : Int) < (n : Int) := by omega
          clear hc hx hl hp hpp hnext hap hlci hDk
          go_wp2_with (go_at_call 16; refine (floor_any _ _ _ h4).mono ?_; rintro e w' ⟨rfl, rfl⟩)
          go_roundw
          case rel => exact ⟨kk + 1, a + p, by omega, by omega, by go_num, by rw [← HAP.out], by rw [HNX.out], by first | rfl | trivial⟩
          case measure => simp [intOf]; omega
          --]]2
        · obtain rfl : kk = n := by omega
          obtain rfl : a = S := by rw [HA.out]; exact HS.out
          have hrS := HR2.out
          have p1 : (FloatKind.f64.format.order (fi (a : Int)) (fi lim) == some Ordering.lt) = decide ((a : Int) < lim) := flt (by omega) (by omega)
          have p2 : (FloatKind.f64.format.order (fi (r : Int)) (fi (a : Int)) == some Ordering.eq) = decide ((r : Int) = (a : Int)) := feq (by omega) (by omega)
          have p3 : (FloatKind.f64.format.order (fi (a : Int)) (fi lim) == some Ordering.gt || FloatKind.f64.format.order (fi (a : Int)) (fi lim) == some Ordering.eq) = decide (lim ≤ (a : Int)) := fgeq (by omega) (by omega)
          have p4 : (FloatKind.f64.format.order (fi lim) (fi (r : Int)) == some Ordering.lt || FloatKind.f64.format.order (fi lim) (fi (r : Int)) == some Ordering.eq) = decide (lim ≤ (r : Int)) := fleq (by omega) (by omega)
          have p5 : (FloatKind.f64.format.order (fi (r : Int)) (fi (a : Int)) == some Ordering.lt || FloatKind.f64.format.order (fi (r : Int)) (fi (a : Int)) == some Ordering.eq) = decide ((r : Int) ≤ (a : Int)) := fleq (by omega) (by omega)
          have k1 : ¬ ((kk : Int) < (kk : Int)) := by omega
          clear k1
          go_upto_region 45 with fail
          go_cut [34] from 197 to 219 (fun v wx => v = .bool true ∧ wx = w4)
          case first =>
            by_cases hal : (a : Int) < lim
            · rw [decide_eq_true hal] at p1
              rw [decide_eq_true (show (r : Int) = (a : Int) by have := hrS (by omega); omega)] at p2
              clear p3 p4 p5 hrS hal
              go_wp2_with fail
              go_meet
              exact ⟨rfl, rfl⟩
            · rw [decide_eq_false hal] at p1
              rw [decide_eq_true (show lim ≤ (a : Int) by omega)] at p3
              rw [decide_eq_true (show lim ≤ (r : Int) by
                by_cases h : (r : Int) < lim
                · have := hrS h; omega
                · omega)] at p4
              rw [decide_eq_true (show (r : Int) ≤ (a : Int) by omega)] at p5
              clear p2 hrS hal
              go_wp2_with fail
              go_meet
              exact ⟨rfl, rfl⟩
          case rest =>
            obtain ⟨rfl, hwc⟩ := hcut
            rw [hwc]
            clear hwc p1 p2 p3 p4 p5
            have c0 : w4.cell? ⟨w.heap.size, 0, none⟩ = some (.slice e3 kk f3) := cell_heap HG4.out.hg rfl
            have hD6 : ∀ i, i < kk → (D i).natAbs < 1000000 := fun i hi => by have := HDB.out i hi; omega
            have HD6 := Hid.mk hD6
            clear hD6
            go_wp2_with fail
            refine (equalF_any kk _ _ D _ (by omega) HD6.out (VRow.fl HG4.out.rd) HDC4.out).mono ?_
            rintro e w5 ⟨rfl, hb5⟩
            have HG5 := Hid.mk (GT.of_below HG4.out hb5)
            have HLS5 := Hid.mk (HLS4.out.below hb5)
            have HLC5 := Hid.mk (HLC4.out.below hb5)
            have HTC5 := Hid.mk (HTC4.out.below hb5)
            have c1 : w5.cell? ⟨w.heap.size, 1, none⟩ = some (.slice e4 kk f4) := cell_heap HG5.out.hg rfl
            clear hb5 c0
            go_wp2_with fail
            refine (equalI_any kk _ _ L _ (by omega) (VRow.nl HG5.out.rl) HLC5.out).mono ?_
            rintro e w6 ⟨rfl, hb6⟩
            have HG6 := Hid.mk (GT.of_below HG5.out hb6)
            have HLS6 := Hid.mk (HLS5.out.below hb6)
            have HTC6 := Hid.mk (HTC5.out.below hb6)
            have c2 : w6.cell? ⟨w.heap.size, 2, none⟩ = some (.slice e5 kk f5) := cell_heap HG6.out.hg rfl
            clear hb6 c1
            go_wp2_with fail
            refine (equalI_any kk _ _ (fun i => node L (i + 1)) _ (by omega) (VRow.nl HG6.out.rt) HTC6.out).mono ?_
            rintro e w7 ⟨rfl, hb7⟩
            have HG7 := Hid.mk (GT.of_below HG6.out hb7)
            have HLS7 := Hid.mk (HLS6.out.below hb7)
            have c0 : w7.cell? ⟨w.heap.size, 0, none⟩ = some (.slice e3 kk f3) := cell_heap HG7.out.hg rfl
            have c5 : w7.cell? ⟨w.heap.size, 5, none⟩ = some (.int .i64 ((sm L 0 kk : Nat) : Int)) := cell_heap HG7.out.hg rfl
            have c6 : w7.cell? ⟨w.heap.size, 6, none⟩ = some (.int .i64 (fst : Int)) := cell_heap HG7.out.hg rfl
            rw [HS0.out] at c5
            clear hb7 c2
            go_wp2_with fail
            refine (equalF_any kk _ _ D _ (by omega) HD6.out (VRow.fl HG7.out.rd) (VRow.fl HLS7.out.rd)).mono ?_
            rintro e w8 ⟨rfl, hb8⟩
            have HG8 := Hid.mk (GT.of_below HG7.out hb8)
            have HLS8 := Hid.mk (HLS7.out.below hb8)
            have c1 : w8.cell? ⟨w.heap.size, 1, none⟩ = some (.slice e4 kk f4) := cell_heap HG8.out.hg rfl
            clear hb8 c0 c5 c6
            go_wp2_with fail
            refine (equalI_any kk _ _ L _ (by omega) (VRow.nl HG8.out.rl) (VRow.nl HLS8.out.rl)).mono ?_
            rintro e w9 ⟨rfl, hb9⟩
            have HG9 := Hid.mk (GT.of_below HG8.out hb9)
            have HLS9 := Hid.mk (HLS8.out.below hb9)
            have c5 : w9.cell? ⟨w.heap.size, 5, none⟩ = some (.int .i64 ((sm L 0 kk : Nat) : Int)) := cell_heap HG9.out.hg rfl
            have c6 : w9.cell? ⟨w.heap.size, 6, none⟩ = some (.int .i64 (fst : Int)) := cell_heap HG9.out.hg rfl
            rw [HS0.out] at c5
            clear hb9 c1
            go_wp2_with fail
            go_ret
            exact ⟨rfl, HLS9.out.bel⟩
end Go.Proofs.YbulkdzeiDoor.C
