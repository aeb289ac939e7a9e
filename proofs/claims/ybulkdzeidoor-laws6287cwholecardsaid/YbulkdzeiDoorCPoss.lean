/-
  THE WALK of possible.
-/
import Derived.Test.YbulkdzeiDoorCSearch
namespace Go.Proofs.YbulkdzeiDoor.C
open Go Go.RowKit
open Go.Proofs.YbulkdzeiDoor.A (fbits ffrom run_store_float)
theorem run_store_func {P : Program} (w : World) (a : Addr) (m : Mode) (f : Fn) (x y : Array Value) : (store a (.func f x y) m).run P w = stored P w a (.func f x y) m := run_store P w a _ m rfl
theorem fi_of (n : Int) : floatOfInt .f64 n = fi n := rfl
attribute [local go_sem] run_store_float run_store_func setCell_drewN alloc_drewN fi_of

/-! ### Comparisons of small whole numbers -/
theorem fleq {a b : Int} (ha : a.natAbs < 1000000000000) (hb : b.natAbs < 1000000000000) : (FloatKind.f64.format.order (fi a) (fi b) == some Ordering.lt || FloatKind.f64.format.order (fi a) (fi b) == some Ordering.eq) = decide (a ≤ b) := by
  rw [fi_ord (by omega) (by omega)]
  rcases Int.lt_trichotomy a b with h | h | h
  · rw [Int.compare_eq_lt.2 h, decide_eq_true (by omega)]; rfl
  · rw [Int.compare_eq_eq.2 h, decide_eq_true (by omega)]; rfl
  · rw [Int.compare_eq_gt.2 h, decide_eq_false (by omega)]; rfl
theorem flt {a b : Int} (ha : a.natAbs < 1000000000000) (hb : b.natAbs < 1000000000000) : (FloatKind.f64.format.order (fi a) (fi b) == some Ordering.lt) = decide (a < b) := by
  rw [fi_ord (by omega) (by omega)]
  rcases Int.lt_trichotomy a b with h | h | h
  · rw [Int.compare_eq_lt.2 h, decide_eq_true (by omega)]; rfl
  · rw [Int.compare_eq_eq.2 h, decide_eq_false (by omega)]; rfl
  · rw [Int.compare_eq_gt.2 h, decide_eq_false (by omega)]; rfl
theorem fgeq {a b : Int} (ha : a.natAbs < 1000000000000) (hb : b.natAbs < 1000000000000) : (FloatKind.f64.format.order (fi a) (fi b) == some Ordering.gt || FloatKind.f64.format.order (fi a) (fi b) == some Ordering.eq) = decide (b ≤ a) := by
  rw [fi_ord (by omega) (by omega)]
  rcases Int.lt_trichotomy a b with h | h | h
  · rw [Int.compare_eq_lt.2 h, decide_eq_false (by omega)]; rfl
  · rw [Int.compare_eq_eq.2 h, decide_eq_true (by omega)]; rfl
  · rw [Int.compare_eq_gt.2 h, decide_eq_true (by omega)]; rfl
theorem feq {a b : Int} (ha : a.natAbs < 1000000000000) (hb : b.natAbs < 1000000000000) : (FloatKind.f64.format.order (fi a) (fi b) == some Ordering.eq) = decide (a = b) := by
  rw [fi_ord (by omega) (by omega)]
  rcases Int.lt_trichotomy a b with h | h | h
  · rw [Int.compare_eq_lt.2 h, decide_eq_false (by omega)]; rfl
  · rw [Int.compare_eq_eq.2 h, decide_eq_true (by omega)]; rfl
  · rw [Int.compare_eq_gt.2 h, decide_eq_false (by omega)]; rfl

/-- The whole number in a float's word. -/
def fint : Value → Nat
  | .float .f64 b => (((FloatKind.f64.decode b).toInt .down).getD 0).toNat
  | _ => 0
theorem fint_fi (n : Nat) (h : n < 1000000000000) : fint (.float .f64 (fi (n : Int))) = n := by
  obtain ⟨J, hJ⟩ := read_fi (n := (n : Int)) (by omega)
  have hd : FloatKind.f64.decode (fi (n : Int)) = .number false (n * 2 ^ J) (-(J : Int)) := by
    refine hJ.trans ?_
    rw [decide_eq_false (by omega), Int.natAbs_natCast]
  unfold fint
  simp only
  rw [hd]
  unfold Ieee.Datum.toInt Ieee.Datum.integral
  simp only
  have g1 : (-(J : Int)).toNat = 0 := by omega
  have g2 : (- -(J : Int)).toNat = J := by omega
  rw [g1, g2, Nat.shiftLeft_zero, cut_down, Nat.mul_div_cancel _ (Nat.two_pow_pos J)]
  simp [Ieee.signed]

/-! ### Plain: the sum by levels -/
/-- live times count. -/
def lc (L C : Nat → Nat) : Nat → Nat := fun j => L j * C j
/-- .. where no count is taken above q. -/
def lq (L C : Nat → Nat) (q : Nat) : Nat → Nat := fun j => L j * min (C j) q
theorem lq_zero (L C : Nat → Nat) (a b : Nat) : sm (lq L C 0) a b = 0 := sm_zero (fun i _ _ => by unfold lq; simp)
theorem lq_le (L C : Nat → Nat) (q a b : Nat) : sm (lq L C q) a b ≤ sm (lc L C) a b := sm_mono (fun i _ _ => Nat.mul_le_mul_left _ (by omega))
theorem lq_top {L C : Nat → Nat} {q a b : Nat} (h : ∀ i, a ≤ i → i < b → C i ≤ q) : sm (lq L C q) a b = sm (lc L C) a b := sm_congr (fun i h1 h2 => by unfold lq lc; rw [Nat.min_eq_left (h i h1 h2)])
theorem lq_step {L C : Nat → Nat} {q a b i : Nat} (hi : a ≤ i) (hib : i ≤ b) (h1 : ∀ j, a ≤ j → j < i → C j < q + 1) (h2 : ∀ j, i ≤ j → j < b → q + 1 ≤ C j) : sm (lq L C (q + 1)) a b = sm (lq L C q) a b + sm L i b := by
  rw [sm_add (lq L C (q + 1)) a i b hi hib, sm_add (lq L C q) a i b hi hib]
  have e1 : sm (lq L C (q + 1)) a i = sm (lq L C q) a i := sm_congr (fun j g1 g2 => by
    unfold lq
    have := h1 j g1 g2
    rw [Nat.min_eq_left (by omega), Nat.min_eq_left (by omega)])
  have e2 : sm (lq L C (q + 1)) i b = sm (lq L C q) i b + sm L i b := by
    rw [← sm_plus]
    exact sm_congr (fun j g1 g2 => by
      unfold lq
      have := h2 j g1 g2
      rw [Nat.min_eq_right (by omega), Nat.min_eq_right (by omega), Nat.mul_add, Nat.mul_one])
  omega
theorem lc_small {L C : Nat → Nat} {a b : Nat} (hL : ∀ i, i < b → L i ≤ 5) (hC : ∀ i, i < b → C i ≤ 800000) (hb : b ≤ 4096) : sm (lc L C) a b ≤ 20000000000 := by
  have h := sm_le (f := lc L C) (M := 4000000) (a := a) (b := b) (fun i _ h2 => by
    unfold lc
    exact Nat.le_trans (Nat.mul_le_mul (hL i h2) (hC i h2)) (by decide))
  have : 4000000 * (b - a) ≤ 4000000 * 4096 := Nat.mul_le_mul_left _ (by omega)
  omega

/-- What possible answers. -/
def Poss (S : Nat) (lim : Int) (w : World) (e : Ending) (w' : World) : Prop := ∃ r : Nat, e = .returned (.float .f64 (fi (r : Int))) ∧ r ≤ S ∧ ((r : Int) < lim → r = S) ∧ Below w.heap.size w w'

section
variable {w : World} {K0 : Nat → Prop} {base g n s : Nat} {D : Nat → Int} {L : Nat → Nat} {fst : Nat} {vd vl vt vs vm : Value} {pv : Nat → Value} {pm : Nat → Nat}

set_option maxRecDepth 100000 in
set_option maxHeartbeats 2000000 in
theorem poss_any (t lim : Int) (k : Nat) (hn : n ≤ 4096) (hf : fst ≤ n) (ht : t.natAbs < 1000) (hk : 0 < k) (hk2 : k ≤ 16) (hlim : lim.natAbs ≤ 3000000000) (hD : ∀ i, i < n → (D i).natAbs < 100000) (hm : ∀ i j, i ≤ j → j < n → D i ≤ D j) (hL : ∀ i, i < n → L i ≤ 5) (h : GS w K0 base g n s D L fst vd vl vt vs vm pv pm) :
    Calls Ybad.prog 15 #[.pointer (some ⟨g, 0, none⟩), .float .f64 (fi t), .float .f64 (q4 k), .float .f64 (fi lim)] w fun e w' => Poss (sm (lc L (fun j => cnt t k (D j))) fst n) lim w e w' := by
  have HG := Hid.mk h
  have HD := Hid.mk hD
  have HM := Hid.mk hm
  have HL := Hid.mk hL
  clear h hD hm hL
  go_enter Ybad.func15, Ybad.ntmps15
  go_upto_region 2 with fail
  obtain ⟨w1, hw1⟩ : ∃ x, x = ((w.alloc (.cells #[.float .f64 (fi t)] 24)).alloc (.cells #[.float .f64 (q4 k)] 24)).alloc (.cells #[.func (.func 26) #[] #[.pointer (some ⟨w.heap.size, 0, none⟩), .pointer (some ⟨w.heap.size + 1, 0, none⟩)]] 61) := ⟨_, rfl⟩
  rw [← hw1]
  have hb1 : Below w.heap.size w w1 := by
    rw [hw1]
    exact (((Below.refl _ _).alloc (Nat.le_refl _) _).alloc (by simp) _).alloc (by simp; omega) _
  have he1 : Env w1 (w.heap.size + 1 + 1) w.heap.size (w.heap.size + 1) t k := by
    have hz : ∀ (u : World) (o : Obj), (u.alloc o).heap.size = u.heap.size + 1 := fun u o => by simp
    have a1 := heap_alloc_new w (.cells #[.float .f64 (fi t)] 24)
    have a2 := heap_alloc_new (w.alloc (.cells #[.float .f64 (fi t)] 24)) (.cells #[.float .f64 (q4 k)] 24)
    have a3 := heap_alloc_new ((w.alloc (.cells #[.float .f64 (fi t)] 24)).alloc (.cells #[.float .f64 (q4 k)] 24)) (.cells #[.func (.func 26) #[] #[.pointer (some ⟨w.heap.size, 0, none⟩), .pointer (some ⟨w.heap.size + 1, 0, none⟩)]] 61)
    rw [hz] at a2
    rw [hz, hz] at a3
    rw [hw1]
    exact ⟨cell_heap a3 rfl, cell_heap (heap_old (heap_old a1 _) _) rfl, cell_heap (heap_old a2 _) rfl⟩
  obtain ⟨B, hB⟩ : ∃ x, w.heap.size = x := ⟨_, rfl⟩
  rw [hB] at he1 ⊢
  have hg1 := HG.out.of_below hb1
  have HG1 := Hid.mk hg1
  have HE1 := Hid.mk he1
  have HB1 := Hid.mk hb1
  have HBB := Hid.mk hB
  clear hw1 hb1 he1 hg1 hB
  have HPO : Hid (∀ (e : Ending) (w' : World) (r : Nat), e = .returned (.float .f64 (fi (r : Int))) → r ≤ sm (lc L (fun j => cnt t k (D j))) fst n → ((r : Int) < lim → r = sm (lc L (fun j => cnt t k (D j))) fst n) → Below w1.heap.size w1 w' → Poss (sm (lc L (fun j => cnt t k (D j))) fst n) lim w e w') := fun e w' r h1 h2 h3 h4 => ⟨r, h1, h2, h3, HB1.out.trans (h4.mono HB1.out.size)⟩
  have c6 : w1.cell? ⟨g, 6, none⟩ = some (.int .i64 (fst : Int)) := cell_heap HG1.out.hg rfl
  have f0 : (0 : Int) ≤ (fst : Int) := by omega
  have f1 : (fst : Int) ≤ (n : Int) := by omega
  rcases HG1.out.rd.2 with ⟨hv, hn0⟩ | ⟨bd, cap, cur, hv, hbd, hcur, hnc, hcm, hcs, htk⟩
  · -- no group at all
    subst hn0
    obtain rfl : fst = 0 := by omega
    have c0 : w1.cell? ⟨g, 0, none⟩ = some (.slice none 0 0) := by rw [← hv]; exact cell_heap HG1.out.hg rfl
    clear hv
    go_quiet (fail)
    go_wp2_with fail
    go_ret
    refine HPO.out _ _ 0 (by rw [show ((0 : Nat) : Int) = 0 from rfl, fi_zero]; rfl) (Nat.zero_le _) (fun _ => ?_) (below_drewN (Below.refl _ _) _)
    rw [sm_self _ _ _ (Nat.le_refl _)]
  · have c0 : w1.cell? ⟨g, 0, none⟩ = some (.slice (some ⟨bd, 0, none⟩) n cap) := by rw [← hv]; exact cell_heap HG1.out.hg rfl
    have hnc' : (n : Int) ≤ (cap : Int) := by omega
    have hcells : ∀ j, j < n → w1.cell? ⟨bd, j, none⟩ = some (.float .f64 (fi (D j))) := fun j hj => by
      obtain ⟨b, cc, cu, h1, h2, -⟩ := own_cell HG1.out.rd (fl_get D hj)
      rw [hv] at h1
      cases h1
      exact h2
    have HCE := Hid.mk hcells
    clear hcells hcur hcs htk hv hbd hcm
    by_cases hfn : fst = n
    · have h0 : n - fst = 0 := by omega
      have HFN := Hid.mk hfn
      clear hfn
      go_quiet (fail)
      go_wp2_with fail
      all_goals
        go_ret
        refine HPO.out _ _ 0 (by rw [show ((0 : Nat) : Int) = 0 from rfl, fi_zero]; rfl) (Nat.zero_le _) (fun _ => ?_) (below_drewN (Below.refl _ _) _)
        rw [sm_self _ _ _ (by have := HFN.out; omega)]
    · have hcf : ¬ cap = fst := by omega
      obtain ⟨m, hm⟩ : ∃ m, n - fst = m := ⟨_, rfl⟩
      have hm0 : 0 < m := by omega
      have hnm : n = fst + m := by omega
      have HNM := Hid.mk hnm
      clear hnm
      go_quiet (fail)
      obtain ⟨w2, hw2⟩ : ∃ x, x = w1.drewN nq := ⟨_, rfl⟩
      rw [← hw2]
      have hb2 : Below w1.heap.size w1 w2 := by rw [hw2]; exact below_drewN (Below.refl _ _) _
      have HB2 := Hid.mk hb2
      clear hw2 hb2 hm c0 c6 hnc' hfn
      have hcell2 : ∀ (wx : World), Below w1.heap.size w1 wx → ∀ j, j < m → wx.cell? ⟨bd, fst + j, none⟩ = some (.float .f64 (fi (D (fst + j)))) := fun wx hb j hj => cell_below hb (HCE.out _ (by have := HNM.out; omega))
      have henv : ∀ (wx : World), Below w1.heap.size w1 wx → Env wx (B + 1 + 1) B (B + 1) t k := fun wx hb => ⟨cell_below hb HE1.out.f, cell_below hb HE1.out.t, cell_below hb HE1.out.a⟩
      have HC2 := Hid.mk hcell2
      have HEN := Hid.mk henv
      clear hcell2 henv hcf
      have hlast := HC2.out w2 HB2.out (m - 1) (by omega)
      have hfb := (HEN.out w2 HB2.out).f
      have m0 : (0 : Int) ≤ (m : Int) - 1 := by omega
      have m1 : (m : Int) - 1 < (m : Int) := by omega
      have m2 : ((m : Int) - 1).toNat = m - 1 := by omega
      have m3 : (1 : Int) ≤ (m : Int) := by omega
      have m4 : IntKind.i64.wrap ((m : Int) - 1) = (m : Int) - 1 := by rw [IntKind.wrap_i64]; have := HNM.out; omega
      have m5 : ((m : Int) == 0) = false := by simp; omega
      have m6 : ¬ (m : Int) = 0 := by omega
      have m7 : ¬ m = 0 := by omega
      go_upto_region 6 with fail
      refine wp_region_pick [0, 1, 2, 3, 4, 5, 6] [7, 8] [0, 1, 2, 3, 4, 5, 6] (fun w' => w'.cell? ⟨B + 1 + 1, 0, none⟩ = some (.func (.func 26) #[] #[.pointer (some ⟨B, 0, none⟩), .pointer (some ⟨B + 1, 0, none⟩)]) ∧ w'.cell? ⟨bd, fst + (m - 1), none⟩ = some (.float .f64 (fi (D (fst + (m - 1)))))) (by kernel_rfl) (by kernel_rfl) (fun _ _ d _ _ h => by cases d <;> exact h) ⟨hfb, hlast⟩ ?_
      iterate 7 (refine wpHead_cons (v := ?_) rfl (by rfl) ?_ ?_; rotate_left 1; (focus (rintro w0 ⟨s1, s2⟩; go_simp; first | done | with_reducible rfl)); simp only [Act.put, List.setIfInBounds_toArray, List.set_cons_zero, List.set_cons_succ])
      refine wpHead_nil ?_
      refine wpTail_list _ _ _ rfl ?_
      simp only [List.filterMap_cons, List.filterMap_nil, List.getElem?_cons_succ, List.getElem?_cons_zero]
      go_wp2_with fail
      have hbd : Below w1.heap.size w1 w2.drew := HB2.out.drew
      refine (count_any (D (fst + (m - 1))) t k B (B + 1) _ (HD.out _ (by have := HNM.out; omega)) ht hk hk2 (HEN.out _ hbd).t (HEN.out _ hbd).a).mono ?_
      rintro e w3 ⟨rfl, rfl⟩
      have HB3 := Hid.mk hbd
      obtain ⟨w3, hw3⟩ : ∃ x, x = w2.drew := ⟨_, rfl⟩
      rw [← hw3] at HB3 ⊢
      have htl := cnt_le (t := t) (k := k) (d := D (fst + (m - 1))) (by have := HD.out (fst + (m - 1)) (by have := HNM.out; omega); omega)
      obtain ⟨tp, htp⟩ : ∃ x, cnt t k (D (fst + (m - 1))) = x := ⟨_, rfl⟩
      rw [htp] at htl ⊢
      have HTP := Hid.mk htp
      have HTL := Hid.mk htl
      clear hw3 hbd hlast hfb htp htl
      have hmb : m ≤ 4096 := by have := HNM.out; omega
      go_upto_region 7 with fail
      go_cut [44] from 40 to 44 (fun v wx => v = .bool (decide (tp ≤ m)) ∧ wx = w3)
      case first =>
        go_wp2_with fail
        go_meet
        have hto := HTL.out
        refine ⟨?_, rfl⟩
        rw [fleq (by omega) (by omega)]
        simp
      case rest =>
        obtain ⟨rfl, rfl⟩ := hcut
        by_cases htm : tp ≤ m
        · have hdt : decide (tp ≤ m) = true := by simp [htm]
          rw [hdt]
          clear hdt
          go_wp2_with fail
          --[[1
          have HAB : Hid (∀ q, sm (lq L (fun j => cnt t k (D j)) q) fst n ≤ 20000000000) := fun q => Nat.le_trans (lq_le _ _ _ _ _) (lc_small HL.out (fun i hi => cnt_le (by have := HD.out i hi; omega)) hn)
          have htpb := HTL.out
          have hstop : ∀ j, fst ≤ j → j < n → cnt t k (D j) ≤ tp := fun j h1 h2 => by
            rw [← HTP.out]
            exact cnt_mono (HM.out j _ (by have := HNM.out; omega) (by have := HNM.out; omega))
          have HST := Hid.mk hstop
          clear hstop
          go_loopw [11, 13, 14, 15] (fun sv qv _ _ wr => ∃ (q1 a : Nat), 1 ≤ q1 ∧ q1 ≤ tp + 1 ∧ sv = .float .f64 (fi (a : Int)) ∧ qv = .float .f64 (fi (q1 : Int)) ∧ a = sm (lq L (fun j => cnt t k (D j)) (q1 - 1)) fst n ∧ Below w1.heap.size w1 wr) (fun _ qv _ _ _ => tp + 2 - fint qv)
          case atStart => exact ⟨1, 0, by omega, by omega, by rw [show ((0 : Nat) : Int) = 0 from rfl, fi_zero], by rw [show ((1 : Nat) : Int) = 1 from rfl, fi_one], (lq_zero _ _ _ _).symm, HB3.out⟩
          case round =>
            obtain ⟨q1, a, hq1, hq2, rfl, rfl, ha, hbw⟩ := hrel
            have hab := HAB.out (q1 - 1)
            rw [← ha] at hab
            have HA := Hid.mk ha
            clear ha
            have hfe : (FloatKind.f64.format.order (fi (q1 : Int)) (fi (tp : Int)) == some Ordering.lt || FloatKind.f64.format.order (fi (q1 : Int)) (fi (tp : Int)) == some Ordering.eq) = decide ((q1 : Int) ≤ (tp : Int)) := fleq (by omega) (by omega)
            have hfl : (FloatKind.f64.format.order (fi (a : Int)) (fi lim) == some Ordering.lt) = decide ((a : Int) < lim) := flt (by omega) (by omega)
            by_cases hqt : q1 ≤ tp
            · rw [decide_eq_true (show (q1 : Int) ≤ (tp : Int) by omega)] at hfe
              by_cases hal : (a : Int) < lim
              · rw [decide_eq_true hal] at hfl
                have HBW := Hid.mk hbw
                clear hbw
                go_wp2_with fail
                clear hfe hfl
                refine (search_any (fun j => D (fst + j)) t bd fst m (cap - fst) q1 k (B + 1 + 1) B (B + 1) wr hmb (fun j hj => HD.out _ (by have := HNM.out; omega)) (fun i j h1 h2 => HM.out _ _ (by omega) (by have := HNM.out; omega)) ht hk hk2 (by omega) (HEN.out wr HBW.out) (HC2.out wr HBW.out)).mono ?_
                rintro e w4 ⟨i, bb, rfl, hfo, rfl⟩
                have hnm := HNM.out
                have hgs := HG1.out.of_below HBW.out
                have g5 : w4.cell? ⟨g, 5, none⟩ = some (.int .i64 ((sm L 0 n : Nat) : Int)) := cell_heap hgs.hg rfl
                have g6 : w4.cell? ⟨g, 6, none⟩ = some (.int .i64 (fst : Int)) := cell_heap hgs.hg rfl
                have him : i ≤ m := hfo.1
                have htot : sm L 0 n = sm L 0 (fst + i) + sm L (fst + i) n := sm_add L 0 (fst + i) n (by omega) (by omega)
                have hs1 := sm_small HL.out hn 0 n (Nat.le_refl _)
                have hstep : sm (lq L (fun j => cnt t k (D j)) q1) fst n = a + sm L (fst + i) n := by
                  have := lq_step (L := L) (C := fun j => cnt t k (D j)) (q := q1 - 1) (a := fst) (b := n) (i := fst + i) (by omega) (by omega) (fun j h1 h2 => by
                    have := hfo.2.1 (j - fst) (by omega)
                    simp only [show fst + (j - fst) = j by omega] at this
                    omega) (fun j h1 h2 => by
                    have := hfo.2.2 (j - fst) (by omega) (by omega)
                    simp only [show fst + (j - fst) = j by omega] at this
                    omega)
                  rw [show q1 - 1 + 1 = q1 by omega] at this
                  rw [this, ← HA.out]
                obtain ⟨tt, htt⟩ : ∃ x, sm L 0 n = x := ⟨_, rfl⟩
                obtain ⟨bf, hbf⟩ : ∃ x, sm L 0 (fst + i) = x := ⟨_, rfl⟩
                obtain ⟨y, hy⟩ : ∃ x, sm L (fst + i) n = x := ⟨_, rfl⟩
                rw [htt] at htot hs1 g5
                rw [hbf, hy] at htot
                rw [hy] at hstep
                have HSTEP := Hid.mk hstep
                have HGS := Hid.mk hgs
                have HBF := Hid.mk hbf
                have HY : Hid ((tt : Int) - (bf : Int) = (y : Int)) := Hid.mk (by omega)
                have hyb : y ≤ 20480 := by omega
                have hbfb : bf ≤ 20480 := by omega
                have x1 : IntKind.i64.wrap ((tt : Int) - (bf : Int)) = (y : Int) := by rw [HY.out, IntKind.wrap_i64]; omega
                have x3 : wrap64 ((tt : Int) - (bf : Int)) = (y : Int) := by rw [HY.out]; unfold wrap64; omega
                have x2 : IntKind.i64.wrap ((fst : Int) + (i : Int)) = (fst : Int) + (i : Int) := by rw [IntKind.wrap_i64]; omega
                have hadd := run_add_fi (n := (a : Int)) (m := (y : Int)) (by omega) (by omega) 24
                have hinc := run_add_fi (n := (q1 : Int)) (m := 1) (by omega) (by omega) 24
                rw [fi_one] at hinc
                clear hfo htot hs1 hstep hgs hbf hy htt hnm
                go_upto_region 12 with fail
                refine wp_region_pick [0, 1, 2, 3, 4, 5, 6, 7, 8, 9, 10, 11] [12, 13, 14, 15, 16] [0, 1, 2, 3, 4, 5, 6, 7, 8, 9, 10, 11, 12, 13, 14] (fun w' => w'.cell? ⟨g, 5, none⟩ = some (.int .i64 (tt : Int)) ∧ w'.cell? ⟨g, 6, none⟩ = some (.int .i64 (fst : Int))) (by kernel_rfl) (by kernel_rfl) (fun _ _ d _ _ h => by cases d <;> exact h) ⟨g5, g6⟩ ?_
                iterate 12 (refine wpHead_cons (v := ?_) rfl (by rfl) ?_ ?_; rotate_left 1; (focus (rintro w0 ⟨s1, s2⟩; go_simp; first | done | with_reducible rfl)); simp only [Act.put, List.setIfInBounds_toArray, List.set_cons_zero, List.set_cons_succ])
                refine wpHead_nil ?_
                refine wpTail_keep rfl (by rfl) (fun KK hKK => ?_)
                go_simp
                rw [show (fst : Int) + (i : Int) = ((fst + i : Nat) : Int) by omega]
                refine (before_any (fst + i) (by have := HNM.out; omega) hn HL.out (HGS.out.of_below (Below.refl _ _).drew)).mono ?_
                rintro e w5 ⟨rfl, rfl⟩
                refine hKK.out _ _ ⟨g5, g6⟩ ?_
                clear hKK KK
                rw [HBF.out]
                refine wpTail_keep rfl (by rfl) (fun KK hKK => ?_)
                go_simp
                refine hKK.out _ _ ⟨g5, g6⟩ ?_
                clear hKK KK
                refine wpTail_keep rfl (by rfl) (fun KK hKK => ?_)
                go_simp
                refine hKK.out _ _ ⟨g5, g6⟩ ?_
                clear hKK KK
                refine wpTail_list _ _ _ rfl ?_
                simp only [List.filterMap_cons, List.filterMap_nil, List.getElem?_cons_succ, List.getElem?_cons_zero]
                go_wp2_with fail
                go_roundw
                case rel => exact ⟨q1 + 1, a + y, by omega, by omega, by first | rfl | (congr 1), by first | rfl | (congr 1), by rw [show q1 + 1 - 1 = q1 by omega, HSTEP.out], HBW.out.drew⟩
                case measure =>
                  rw [show ((q1 : Int) + 1) = ((q1 + 1 : Nat) : Int) by omega, fint_fi _ (by omega), fint_fi _ (by omega)]
                  omega
              · rw [decide_eq_false hal] at hfl
                have HAL := Hid.mk hal
                clear hal
                go_wp2_with fail
                go_ret
                refine HPO.out _ _ a rfl ?_ (fun h => by have := HAL.out; omega) hbw
                rw [HA.out]
                exact lq_le _ _ _ _ _
            · rw [decide_eq_false (show ¬ (q1 : Int) ≤ (tp : Int) by omega)] at hfe
              go_wp2_with fail
              go_ret
              have haS : a = sm (lc L (fun j => cnt t k (D j))) fst n := by rw [HA.out]; exact lq_top (fun i h1 h2 => by have := HST.out i h1 h2; omega)
              exact HPO.out _ _ a rfl (by omega) (fun _ => haS) hbw
          --]]1
        · have hdt : decide (tp ≤ m) = false := by simp [htm]
          rw [hdt]
          clear hdt
          go_wp2_with fail
          go_loopw [11, 16, 17, 18, 81] (fun sv _ _ _ i wr => ∃ (j a : Nat), j ≤ m ∧ i = .int .i64 (j : Int) ∧ sv = .float .f64 (fi (a : Int)) ∧ a = sm (lc L (fun j => cnt t k (D j))) fst (fst + j) ∧ Below w1.heap.size w1 wr) (fun _ _ _ _ i _ => m - (intOf i).toNat)
          case atStart => exact ⟨0, 0, by omega, rfl, by rw [show ((0 : Nat) : Int) = 0 from rfl, fi_zero], (sm_self _ _ _ (by omega)).symm, HB3.out⟩
          case round =>
            obtain ⟨j, a, hjm, rfl, rfl, ha, hbw⟩ := hrel
            have HA := Hid.mk ha
            clear ha
            by_cases hj : j < m
            · have hnm := HNM.out
              have hcell := HC2.out wr hbw j hj
              have hgs := HG1.out.of_below hbw
              obtain ⟨bl, cl, cu, hvl, hl2, -⟩ := own_cell hgs.rl (nl_get L (show fst + j < n by omega))
              have g1 : wr.cell? ⟨g, 1, none⟩ = some (.slice (some ⟨bl, 0, none⟩) n cl) := by rw [← hvl]; exact cell_heap hgs.hg rfl
              have g6 : wr.cell? ⟨g, 6, none⟩ = some (.int .i64 (fst : Int)) := cell_heap hgs.hg rfl
              have hLj := HL.out (fst + j) (by omega)
              have hcb := cnt_le (t := t) (k := k) (d := D (fst + j)) (by have := HD.out (fst + j) (by omega); omega)
              have hab : a ≤ 20000000000 := by
                rw [HA.out]
                exact lc_small (fun i hi => HL.out i (by omega)) (fun i hi => cnt_le (by have := HD.out i (by omega); omega)) (by omega)
              have hnext : sm (lc L (fun j => cnt t k (D j))) fst (fst + (j + 1)) = a + L (fst + j) * cnt t k (D (fst + j)) := by
                rw [← Nat.add_assoc, sm_succ _ _ _ (by omega), ← HA.out]; rfl
              have hnxl : sm (lc L (fun j => cnt t k (D j))) fst (fst + (j + 1)) ≤ sm (lc L (fun j => cnt t k (D j))) fst n := by
                rw [sm_add (lc L (fun j => cnt t k (D j))) fst (fst + (j + 1)) n (by omega) (by omega)]; omega
              obtain ⟨l, hl⟩ : ∃ x, L (fst + j) = x := ⟨_, rfl⟩
              obtain ⟨c, hc⟩ : ∃ x, cnt t k (D (fst + j)) = x := ⟨_, rfl⟩
              rw [hl] at hLj hl2 hnext
              rw [hc] at hcb hnext
              rw [hnext] at hnxl
              have hlc : l * c ≤ 5 * 800000 := Nat.mul_le_mul hLj hcb
              have HNX := Hid.mk hnext
              have HNL := Hid.mk hnxl
              have HCC := Hid.mk hc
              have HBW := Hid.mk hbw
              have x0 : (0 : Int) ≤ (j : Int) := by omega
              have x1 : (j : Int) < (m : Int) := by omega
              have x2 : IntKind.i64.wrap ((fst : Int) + (j : Int)) = (fst : Int) + (j : Int) := by rw [IntKind.wrap_i64]; omega
              have x3 : (0 : Int) ≤ (fst : Int) + (j : Int) := by omega
              have x4 : (fst : Int) + (j : Int) < (n : Int) := by omega
              have x5 : ((fst : Int) + (j : Int)).toNat = fst + j := by omega
              clear hgs hvl hnext hnxl hl hc hbw hnm
              go_upto_region 17 with fail
              go_quiet (fail)
              by_cases hl0 : l = 0
              · subst hl0
                go_wp2_with fail
                go_roundw
                case rel => exact ⟨j + 1, a, by omega, by go_num, rfl, by rw [HNX.out]; simp, below_drewN HBW.out _⟩
                case measure => simp [intOf]; omega
              · have hlp : (0 : Int) < (l : Int) := by omega
                have hld : decide ((0 : Int) < (l : Int)) = true := by simp; omega
                have hlci : (l : Int) * (c : Int) < 1000000000000 := by
                  have h : ((l * c : Nat) : Int) ≤ 4000000 := by omega
                  rw [Int.natCast_mul] at h
                  omega
                have hmul := run_mul_fi (n := (l : Int)) (m := (c : Int)) (by omega) (by omega) (by omega) (by omega) hlci 24
                obtain ⟨p, hp⟩ : ∃ x, l * c = x := ⟨_, rfl⟩
                have hpp : (l : Int) * (c : Int) = (p : Int) := by rw [← hp, Int.natCast_mul]
                rw [hpp] at hmul
                have hadd := run_add_fi (n := (a : Int)) (m := (p : Int)) (by omega) (by omega) 24
                rw [hp] at HNX HNL hlc
                have hev := HEN.out (wr.drewN nq) (below_drewN HBW.out nq)
                have hfb := hev.f
                have HEV := Hid.mk hev
                have HDJ := Hid.mk (HD.out (fst + j) (by have := HNM.out; omega))
                clear hpp hp hlci hev
                go_wp2_with fail
                refine (count_any (D (fst + j)) t k B (B + 1) _ HDJ.out ht hk hk2 HEV.out.t HEV.out.a).mono ?_
                rintro e w5 ⟨rfl, rfl⟩
                rw [HCC.out]
                have hap : (a : Int) + (p : Int) = ((a + p : Nat) : Int) := by omega
                have HAP := Hid.mk hap
                clear hap
                have hge : (FloatKind.f64.format.order (fi ((a : Int) + (p : Int))) (fi lim) == some Ordering.gt || FloatKind.f64.format.order (fi ((a : Int) + (p : Int))) (fi lim) == some Ordering.eq) = decide (lim ≤ (a : Int) + (p : Int)) := fgeq (by omega) (by omega)
                by_cases hlim2 : lim ≤ (a : Int) + (p : Int)
                · rw [decide_eq_true hlim2] at hge
                  go_wp2_with fail
                  go_ret
                  have hnl := HNL.out
                  refine HPO.out _ _ (a + p) (by rw [← HAP.out]; rfl) hnl (fun h => ?_) (below_drewN HBW.out _)
                  omega
                · rw [decide_eq_false hlim2] at hge
                  have HL2 := Hid.mk hlim2
                  clear hlim2
                  go_wp2_with fail
                  go_roundw
                  case rel => exact ⟨j + 1, a + p, by omega, by go_num, by rw [← HAP.out], by rw [HNX.out], below_drewN HBW.out _⟩
                  case measure => simp [intOf]; omega
            · obtain rfl : j = m := by omega
              go_wp2_with fail
              go_ret
              have haS : a = sm (lc L (fun j => cnt t k (D j))) fst n := by rw [HA.out, HNM.out]
              exact HPO.out _ _ a rfl (by omega) (fun _ => haS) hbw
end
end Go.Proofs.YbulkdzeiDoor.C
