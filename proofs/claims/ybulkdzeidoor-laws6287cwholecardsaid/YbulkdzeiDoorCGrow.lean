/-
  THE WALKS that append floats: grow, Add, AppendTerms, AppendProduct.
-/
import Derived.Test.YbulkdzeiDoorCJunk
import Derived.BigQuiet
import Derived.Deep.CutBlock
import Derived.Deep.DeepCutAuto
namespace Go.Proofs.YbulkdzeiDoor.C
open Go Go.RowKit
open Go.Proofs.YbulkdzeiDoor.A (fbits ffrom run_fadd addV addN run_store_float)
attribute [local go_sem ↓] run_fadd run_fsub run_fmul
attribute [local go_sem] fbits ffrom run_store_float setCell_drewN alloc_drewN

set_option maxRecDepth 100000 in
set_option maxHeartbeats 1000000 in
theorem grow_any (K : Nat → Prop) (v : Value) (n x : Nat) (w : World) (hv : FRow w K v n) (hK : ∀ b, K b → b < w.heap.size) (hn : n ≤ 100000000) :
    Calls Ybad.prog 38 #[v, .float .f64 x] w fun e w' => ∃ v' n', e = .returned v' ∧ 1 ≤ n' ∧ n' ≤ n + 1 ∧ FRow w' K v' n' ∧ KChg K w w' := by
  obtain ⟨a0, c0, rfl⟩ := hv.len
  have HV := Hid.mk hv
  have HK := Hid.mk hK
  clear hv hK
  go_enter Ybad.func38, Ybad.ntmps38
  go_wp2_with fail
  go_loopw [1, 5, 7, 8, 9, 12] (fun xx kk _ _ _ i wr => ∃ (t k x : Nat), t ≤ n ∧ k ≤ t ∧ i = .int .i64 (t : Int) ∧ kk = .int .i64 (k : Int) ∧ xx = .float .f64 x ∧ KChg K w wr) (fun _ _ _ _ _ i _ => n - (intOf i).toNat)
  case atStart => exact ⟨0, 0, x, by omega, by omega, rfl, rfl, rfl, KChg.refl _ _⟩
  case round =>
    obtain ⟨t, k, y, ht, hkt, rfl, rfl, rfl, hc⟩ := hrel
    by_cases htn : t < n
    · obtain ⟨b, cap, p, h1, h2, -, -, -, -⟩ := (HV.out.chg hc).cell htn
      cases h1
      obtain ⟨b', cap', p', h1, h3, h4, h5, -, -⟩ := (HV.out.chg hc).cell (show k < n by omega)
      cases h1
      have t0 : (0 : Int) ≤ (t : Int) := by omega
      have t1 : (t : Int) < (n : Int) := by omega
      have k0 : (0 : Int) ≤ (k : Int) := by omega
      have k1 : (k : Int) < (n : Int) := by omega
      have HC := Hid.mk hc
      clear hc
      go_wp2_with fail
      refine (rounding_any _ _ _ _).mono ?_
      rintro e w1 ⟨r, m, rfl, rfl⟩
      cases hr : (FloatKind.f64.format.order r 0 != some Ordering.eq)
      · go_wp2_with fail
        go_roundw
        case rel => exact ⟨t + 1, k, _, by omega, by omega, by go_num, rfl, rfl, HC.out.drewN _⟩
        case measure => simp [intOf]; omega
      · go_wp2_with fail
        go_roundw
        case rel => exact ⟨t + 1, k + 1, _, by omega, by omega, by go_num, by go_num, rfl, (HC.out.set h5 _ _).drewN _⟩
        case measure => simp [intOf]; omega
    · obtain rfl : t = n := by omega
      have hrow : FRow wr K (.slice a0 k c0) k := by
        rcases HV.out.chg hc with ⟨h1, h2⟩ | ⟨b, cap, h1, h2, h3, h4, h5⟩
        · cases h1
          obtain rfl : k = 0 := by omega
          exact .inl ⟨rfl, rfl⟩
        · cases h1
          exact .inr ⟨b, c0, rfl, by omega, h3, h4, h5⟩
      have hcap : k ≤ c0 ∧ (a0 = none → c0 = 0) := by
        rcases HV.out with ⟨h1, h2⟩ | ⟨b, cap, h1, h2, _⟩
        · cases h1; exact ⟨by omega, fun _ => rfl⟩
        · cases h1; exact ⟨by omega, fun h => by cases h⟩
      have k0 : (0 : Int) ≤ (k : Int) := by omega
      have k1 : (k : Int) ≤ (c0 : Int) := by omega
      have hKr : ∀ b, K b → b < wr.heap.size := fun b hb => Nat.lt_of_lt_of_le (HK.out b hb) hc.size
      have hb1 : Below wr.heap.size wr (wr.alloc (.cells #[.float .f64 y] 24)) := (Below.refl _ _).alloc (Nat.le_refl _) _
      have hc1 : KChg K wr (wr.alloc (.cells #[.float .f64 y] 24)) := KChg.of_below hKr hb1
      obtain ⟨v1, w2, hrun, hr2, hc2⟩ := append_flt (wr.alloc (.cells #[.float .f64 y] 24)) K _ k wr.heap.size y (hrow.chg hc1) (heap_alloc_new _ _) (fun b hb => Nat.lt_of_lt_of_le (hKr b hb) hb1.size) (by omega)
      have HF : Hid (1 ≤ k + 1 ∧ k + 1 ≤ t + 1 ∧ FRow w2 K v1 (k + 1) ∧ KChg K w w2) := ⟨by omega, by omega, hr2, (hc.trans hc1).trans hc2⟩
      have HRUN := Hid.mk hrun
      clear hrow hKr hb1 hc1 hr2 hc2 hc hrun
      cases a0 with
      | none =>
        obtain rfl : c0 = 0 := hcap.2 rfl
        obtain rfl : k = 0 := by omega
        clear hcap
        go_wp2_with (at_builtin; refine Go.Lib.wpList_append_run _ rfl _ _ 22 22 rfl _ _ rfl rfl v1 w2 HRUN.out ?_)
        go_ret
        exact ⟨_, _, rfl, HF.out⟩
      | some ad =>
        clear hcap
        go_wp2_with (at_builtin; refine Go.Lib.wpList_append_run _ rfl _ _ 22 22 rfl _ _ rfl rfl v1 w2 HRUN.out ?_)
        go_ret
        exact ⟨_, _, rfl, HF.out⟩

/-- A sum in its three cells. -/
structure SumAt (w : World) (K : Nat → Prop) (sb so : Nat) (v : Value) (x : Nat) (p : Bool) (m : Nat) : Prop where
  c0 : w.cell? ⟨sb, so, none⟩ = some v
  c1 : w.cell? ⟨sb, so + 1, none⟩ = some (.float .f64 x)
  c2 : w.cell? ⟨sb, so + 2, none⟩ = some (.bool p)
  row : FRow w K v m

set_option maxRecDepth 100000 in
set_option maxHeartbeats 1000000 in
theorem terms_any (K : Nat → Prop) (sb so : Nat) (v u : Value) (x n m : Nat) (p : Bool) (w : World) (hs : SumAt w K sb so v x p m) (hu : FRow w K u n) (hK : ∀ b, K b → b < w.heap.size) (hb : n + m ≤ 100000000) :
    Calls Ybad.prog 24 #[.pointer (some ⟨sb, so, none⟩), u] w fun e w' => ∃ v' n', e = .returned v' ∧ n' ≤ n + m + 1 ∧ FRow w' K v' n' ∧ KChg K w w' := by
  obtain ⟨c0, c1, c2, hrow⟩ := hs
  obtain ⟨a0, d0, rfl⟩ := hu.len
  obtain ⟨a1, d1, rfl⟩ := hrow.len
  have hb1 : Below w.heap.size w (w.alloc (.cells #[.float .f64 x] 24)) := (Below.refl _ _).alloc (Nat.le_refl _) _
  have hc1 : KChg K w (w.alloc (.cells #[.float .f64 x] 24)) := KChg.of_below hK hb1
  obtain ⟨v1, w1, hrun1, hr1, hk1⟩ := append_flt (w.alloc (.cells #[.float .f64 x] 24)) K _ n w.heap.size x (hu.chg hc1) (heap_alloc_new _ _) (fun b hb => Nat.lt_of_lt_of_le (hK b hb) hb1.size) (by omega)
  obtain ⟨v2, w2, hrun2, hr2, hk2⟩ := append_frow w K _ _ n m hu hrow hK (by omega)
  have HR1 : Hid (FRow w1 K v1 (n + 1) ∧ KChg K w w1) := ⟨hr1, hc1.trans hk1⟩
  have HR2 : Hid (FRow w2 K v2 (n + m) ∧ KChg K w w2) := ⟨hr2, hk2⟩
  have HRUN1 := Hid.mk hrun1
  have HRUN2 := Hid.mk hrun2
  clear hrow hu hK hb1 hc1 hrun1 hrun2 hr1 hr2 hk1 hk2
  cases p
  · go_enter Ybad.func24, Ybad.ntmps24
    go_wp2_with (at_builtin; refine Go.Lib.wpList_append_run _ rfl _ _ 22 22 rfl _ _ rfl rfl v2 w2 HRUN2.out ?_)
    go_ret
    exact ⟨_, _, rfl, by omega, HR2.out⟩
  · go_enter Ybad.func24, Ybad.ntmps24
    go_wp2_with (at_builtin; refine Go.Lib.wpList_append_run _ rfl _ _ 22 22 rfl _ _ rfl rfl v1 w1 HRUN1.out ?_)
    go_ret
    exact ⟨_, _, rfl, by omega, HR1.out⟩

theorem KChg.cell {K : Nat → Prop} {w w' : World} (h : KChg K w w') {b o : Nat} (hb : K b) {v : Value} (hv : w.cell? ⟨b, o, none⟩ = some v) : w'.cell? ⟨b, o, none⟩ = some v := (World.cell?_of_block (a := ⟨b, o, none⟩) (h.keep b hb)).trans hv

theorem FRow.chg' {w w' : World} {K K' : Nat → Prop} {v : Value} {n : Nat} (h : FRow w K v n) (hc : KChg K' w w') (hs : ∀ b, K' b → K b) : FRow w' K v n := by
  rcases h with h | ⟨b, cap, h1, h2, h3, h4, h5⟩
  · exact .inl h
  · exact .inr ⟨b, cap, h1, h2, h3, h4, hc.junk b cap (fun hk => h4 (hs b hk)) h5⟩
theorem set_same {c : Array Value} {i : Nat} {v : Value} (h : c[i]? = some v) : c.setIfInBounds i v = c := by
  apply Array.ext_getElem?
  intro j
  rw [Array.getElem?_setIfInBounds]
  by_cases hij : i = j
  · subst hij
    rw [if_pos rfl, h, if_pos (Array.getElem?_eq_some_iff.1 h).1]
  · rw [if_neg hij]
theorem KChg.setOther {K : Nat → Prop} {a w : World} {sb o : Nat} {ty : TypeId} {c : Array Value} (h : KChg (fun b => K b ∧ b ≠ sb) a w) (hty : ty ≠ 24) (hh : w.heap[sb]? = some (.cells c ty (0, 0))) (v : Value) : KChg (fun b => K b ∧ b ≠ sb) a (w.setCell ⟨sb, o, none⟩ v) :=
  h.trans ⟨rfl, rfl, rfl, by simp [World.setCell], fun k hk => Below.heap_setCell _ _ _ _ hk.2, fun k cap _ hf => by
    obtain ⟨cc, g1, g2⟩ := hf
    have hne : k ≠ sb := fun e => by rw [e, hh] at g1; cases g1; exact hty rfl
    exact ⟨cc, (Below.heap_setCell _ _ _ _ hne).trans g1, g2⟩⟩

theorem set4 (c : Array Value) (so : Nat) (f v t u : Value) : (((c.setIfInBounds (so + 1) f).setIfInBounds so v).setIfInBounds (so + 2) t).setIfInBounds so u = ((c.setIfInBounds so u).setIfInBounds (so + 1) f).setIfInBounds (so + 2) t := by
  apply Array.ext_getElem?
  intro j
  simp only [Array.getElem?_setIfInBounds, Array.size_setIfInBounds]
  by_cases h0 : so = j
  · subst h0
    simp
  · by_cases h1 : so + 1 = j
    · subst h1; simp
    · by_cases h2 : so + 2 = j
      · subst h2; simp
      · simp [h0, h1, h2]

/-- What Add leaves of a sum. -/
def Added (K : Nat → Prop) (sb so m : Nat) (ty : TypeId) (c : Array Value) (w w' : World) : Prop :=
  ∃ (v' : Value) (x' : Nat) (p' : Bool) (m' : Nat), m' ≤ m + 1 ∧ w'.heap[sb]? = some (.cells (((c.setIfInBounds so v').setIfInBounds (so + 1) (.float .f64 x')).setIfInBounds (so + 2) (.bool p')) ty (0, 0)) ∧ FRow w' K v' m' ∧ KChg (fun b => K b ∧ b ≠ sb) w w'

set_option maxRecDepth 100000 in
set_option maxHeartbeats 1000000 in
theorem add_any (K : Nat → Prop) (sb so : Nat) (ty : TypeId) (c : Array Value) (v : Value) (x m y : Nat) (p : Bool) (w : World) (hty : ty ≠ 24) (hh : w.heap[sb]? = some (.cells c ty (0, 0))) (hKs : K sb) (h0 : c[so]? = some v) (h1 : c[so + 1]? = some (.float .f64 x)) (h2 : c[so + 2]? = some (.bool p))
    (hrow : FRow w K v m) (hK : ∀ b, K b → b < w.heap.size) (hb : m ≤ 100000000) :
    Calls Ybad.prog 25 #[.pointer (some ⟨sb, so, none⟩), .float .f64 y] w fun e w' => e = .returned (.tuple #[]) ∧ Added K sb so m ty c w w' := by
  have c0 := cell_heap hh h0
  have c1 := cell_heap hh h1
  have c2 := cell_heap hh h2
  have f1 := frozen_heap (o := so + 1) hh
  obtain ⟨a1, d1, rfl⟩ := hrow.len
  have HH := Hid.mk hh
  have HROW := Hid.mk hrow
  clear hh hrow
  go_enter Ybad.func25, Ybad.ntmps25
  have HK := Hid.mk hK
  have HC0 := Hid.mk h0
  have HC2 := Hid.mk h2
  clear hK h0 h2 h1
  cases p
  · go_wp2_with fail
    obtain ⟨w1, hw1⟩ : ∃ x', x' = (w.setCell ⟨sb, so + 1, none⟩ (.float .f64 (addV w x y))).drewN (addN x y) := ⟨_, rfl⟩
    rw [← hw1]
    have hh1 : w1.heap[sb]? = some (.cells (c.setIfInBounds (so + 1) (.float .f64 (addV w x y))) ty (0, 0)) := by rw [hw1]; exact heap_setCell_same HH.out _
    have hk1 : KChg (fun b => K b ∧ b ≠ sb) w w1 := by rw [hw1]; exact ((KChg.refl _ _).setOther hty HH.out _).drewN _
    have hK1 : ∀ b, K b → b < w1.heap.size := fun b hb => Nat.lt_of_lt_of_le (HK.out b hb) hk1.size
    obtain ⟨c1', hc1'⟩ : ∃ x', x' = c.setIfInBounds (so + 1) (.float .f64 (addV w x y)) := ⟨_, rfl⟩
    rw [← hc1'] at hh1
    have g0 : c1'[so]? = some (.slice a1 m d1) := by rw [hc1', Array.getElem?_setIfInBounds_ne (by omega)]; exact HC0.out
    have g2 : c1'[so + 2]? = some (.bool false) := by rw [hc1', Array.getElem?_setIfInBounds_ne (by omega)]; exact HC2.out
    have HC1' := Hid.mk hc1'
    have HG2 := Hid.mk g2
    have HH1 := Hid.mk hh1
    have HK1 := Hid.mk hk1
    clear hw1 c0 c1 c2 f1 hc1' hh1 hk1 g0 g2
    refine (grow_any K _ m y w1 (HROW.out.chg' HK1.out (fun b hb => hb.1)) hK1 hb).mono ?_
    rintro e w2 ⟨v2, n2, rfl, hn1, hn2, hr2, hk2⟩
    have hh2 : w2.heap[sb]? = some (.cells c1' ty (0, 0)) := (hk2.keep sb hKs).trans HH1.out
    obtain ⟨b2, cap2, -, hv2, -, -, -, -, -⟩ := hr2.cell (show n2 - 1 < n2 by omega)
    subst hv2
    have e0 := cell_heap (o := so) hh2 (show c1'[so]? = some (.slice a1 m d1) by rw [HC1'.out, Array.getElem?_setIfInBounds_ne (by omega)]; exact HC0.out)
    have e1 := frozen_heap (o := so) hh2
    have HR2 := Hid.mk hr2
    have HK2 := Hid.mk hk2
    have HH2 := Hid.mk hh2
    clear hr2 hk2 hh2 hK1
    go_upto_region 3 with fail
    obtain ⟨w3, hw3⟩ : ∃ x', x' = w2.setCell ⟨sb, so, none⟩ (.slice (some ⟨b2, 0, none⟩) n2 cap2) := ⟨_, rfl⟩
    rw [← hw3]
    have hh3 : w3.heap[sb]? = some (.cells (c1'.setIfInBounds so (.slice (some ⟨b2, 0, none⟩) n2 cap2)) ty (0, 0)) := by rw [hw3]; exact heap_setCell_same HH2.out _
    have hk3 : KChg (fun b => K b ∧ b ≠ sb) w2 w3 := by rw [hw3]; exact (KChg.refl _ _).setOther hty HH2.out _
    have hr3 : FRow w3 K (.slice (some ⟨b2, 0, none⟩) n2 cap2) n2 := HR2.out.chg' hk3 (fun b hb => hb.1)
    have hk23 : KChg (fun b => K b ∧ b ≠ sb) w w3 := (HK1.out.trans (HK2.out.mono (fun b hb => hb.1) (fun b cap hb hK hf => by
      by_cases hbs : b = sb
      · subst hbs
        obtain ⟨cc, g1, _⟩ := hf
        rw [HH1.out] at g1
        cases g1
        exact absurd rfl hty
      · exact absurd ⟨hK, hbs⟩ hb))).trans hk3
    obtain ⟨b2', cap2', z, hv, hz, -, -, -, -⟩ := hr3.cell (show n2 - 1 < n2 by omega)
    cases hv
    have hso : so < c1'.size := by
      have := HC0.out
      rw [HC1'.out]; simp
      exact (Array.getElem?_eq_some_iff.1 this).1
    have p0 := cell_heap (o := so) hh3 (by rw [Array.getElem?_setIfInBounds, if_pos rfl, if_pos hso])
    have p2 := cell_heap (o := so + 2) hh3 (by rw [Array.getElem?_setIfInBounds_ne (by omega)]; exact HG2.out)
    have q0 := frozen_heap (o := so) hh3
    have q2 := frozen_heap (o := so + 2) hh3
    have i0 : (0 : Int) ≤ (n2 : Int) - 1 := by omega
    have i1 : (n2 : Int) - 1 < (n2 : Int) := by omega
    have i4 : (1 : Int) ≤ (n2 : Int) := by omega
    have i2 : IntKind.i64.wrap ((n2 : Int) - 1) = (n2 : Int) - 1 := by rw [IntKind.wrap_i64]; omega
    have i3 : ((n2 : Int) - 1).toNat = n2 - 1 := by omega
    have HH3 := Hid.mk hh3
    have HR3 := Hid.mk hr3
    have HK3 := Hid.mk hk23
    clear hw3 hh3 hk3 hr3 hk23 e0 e1 hso
    refine wp_region_pick [0, 1, 2, 3, 4, 5, 6, 7, 8, 9, 10, 11] [12, 13] [0, 1, 2, 3, 4, 5, 6, 7, 8, 9, 10, 11] (fun w' => w'.cell? ⟨sb, so, none⟩ = some (.slice (some ⟨b2, 0, none⟩) n2 cap2) ∧ w'.cell? ⟨b2, n2 - 1, none⟩ = some (.float .f64 z)) (by kernel_rfl) (by kernel_rfl) (fun _ _ d _ _ h => by cases d <;> exact h) ⟨p0, hz⟩ ?_
    iterate 12 (refine wpHead_cons (v := ?_) rfl (by rfl) ?_ ?_; rotate_left 1; (focus (rintro w0 ⟨s1, s2⟩; go_simp; first | done | with_reducible rfl)); simp only [Act.put, List.setIfInBounds_toArray, List.set_cons_zero, List.set_cons_succ])
    refine wpHead_nil ?_
    refine wpTail_list _ _ _ rfl ?_
    simp only [List.filterMap_cons, List.filterMap_nil, List.getElem?_cons_succ, List.getElem?_cons_zero]
    go_wp2_with fail
    refine (finite_any _ _).mono ?_
    rintro e w4 ⟨r, rfl, rfl⟩
    have hc2 : (((c.setIfInBounds so (.slice (some ⟨b2, 0, none⟩) n2 cap2)).setIfInBounds (so + 1) (.float .f64 (addV w x y))).setIfInBounds (so + 2) (.bool false)) = c1'.setIfInBounds so (.slice (some ⟨b2, 0, none⟩) n2 cap2) := by
      have h3 : (c1'.setIfInBounds so (.slice (some ⟨b2, 0, none⟩) n2 cap2))[so + 2]? = some (.bool false) := by rw [Array.getElem?_setIfInBounds_ne (by omega)]; exact HG2.out
      rw [← set_same h3, HC1'.out, Array.setIfInBounds_comm _ _ (show so + 1 ≠ so by omega)]
    have HC2' := Hid.mk hc2
    clear hc2
    cases r
    · go_wp2_with fail
      go_end0
      refine ⟨rfl, .slice none 0 0, addV w x y, true, 0, by omega, ?_, .inl ⟨rfl, rfl⟩, ((HK3.out.setOther hty HH3.out _).setOther hty (heap_setCell_same HH3.out _) _).drew⟩
      have h4 := heap_setCell_same (o := so) (heap_setCell_same (o := so + 2) HH3.out (.bool true)) (.slice none 0 0)
      rw [HC1'.out, set4] at h4
      exact h4
    · go_wp2_with fail
      go_end0
      refine ⟨rfl, _, addV w x y, false, n2, by omega, ?_, HR3.out.chg' (K' := K) ((KChg.refl _ _).drew) (fun _ h => h), HK3.out.drew⟩
      rw [HC2'.out]
      exact HH3.out
  · go_wp2_with fail
    refine bodyPost_ret (results_none rfl _ _ _) rfl ?_
    refine ⟨rfl, _, addV w x y, true, m, by omega, ?_, (HROW.out.chg' ((KChg.refl _ _).setOther (o := so + 1) hty HH.out (.float .f64 (addV w x y))) (fun b hb => hb.1)).chg' (K' := K) ((KChg.refl _ _).drewN _) (fun _ h => h), ((KChg.refl _ _).setOther hty HH.out _).drewN _⟩
    have e1 : (c.setIfInBounds (so + 1) (.float .f64 (addV w x y)))[so + 2]? = some (.bool true) := by rw [Array.getElem?_setIfInBounds_ne (by omega)]; exact HC2.out
    rw [set_same HC0.out, set_same e1]
    exact heap_setCell_same HH.out _

theorem Tab.below {w w' : World} (h : Tab w) (hb : w'.heap[2]? = w.heap[2]?) : Tab w' := fun i hi => by
  obtain ⟨z, h1, h2⟩ := h i hi
  exact ⟨z, (World.cell?_of_block (a := ⟨2, i, none⟩) hb).trans h1, h2⟩

theorem index0 (r0 r1 r2 : Int) (w : World) : (Instr.index 82 (.agg #[.int .u64 r0, .int .u64 r1, .int .u64 r2]) (.int .i64 0)).run Ybad.prog w = .ok (.int .u64 r0) w := by kernel_rfl
theorem index1 (r0 r1 r2 : Int) (w : World) : (Instr.index 82 (.agg #[.int .u64 r0, .int .u64 r1, .int .u64 r2]) (.int .i64 1)).run Ybad.prog w = .ok (.int .u64 r1) w := by kernel_rfl
theorem index2 (r0 r1 r2 : Int) (w : World) : (Instr.index 82 (.agg #[.int .u64 r0, .int .u64 r1, .int .u64 r2]) (.int .i64 2)).run Ybad.prog w = .ok (.int .u64 r2) w := by kernel_rfl
attribute [local go_sem ↓] index0 index1 index2

set_option maxRecDepth 100000 in
set_option maxHeartbeats 1000000 in
theorem product_any (K : Nat → Prop) (v : Value) (n x : Nat) (z : Int) (w : World) (hv : FRow w K v n) (hK : ∀ b, K b → b < w.heap.size) (hn : n ≤ 100000000) (ht : Tab w) :
    Calls Ybad.prog 23 #[v, .int .i64 z, .float .f64 x] w fun e w' => ∃ v' n', e = .returned v' ∧ n' ≤ n + 3 ∧ FRow w' K v' n' ∧ KChg K w w' := by
  obtain ⟨a0, c0, rfl⟩ := hv.len
  have HV := Hid.mk hv
  have HK := Hid.mk hK
  have HT := Hid.mk ht
  clear hv hK ht
  go_enter Ybad.func23, Ybad.ntmps23
  by_cases hz : z = 0
  · have h0 : (z == 0) = true := by simp [hz]
    subst hz
    go_wp2_with fail
    go_ret
    exact ⟨_, n, rfl, by omega, HV.out, KChg.refl _ _⟩
  have h0 : (z == 0) = false := by simp [hz]
  cases h1 : (FloatKind.f64.format.order x 0 == some Ordering.eq)
  · go_wp2_with (first | (go_at_call 34; refine (abs_any _ _).mono ?_; rintro e w' ⟨r, rfl, rfl⟩) | (go_at_call 33; refine (odd_any _ _ HT.out).mono ?_; rintro e w' ⟨m, k, rfl, rfl⟩) | (go_at_call 35; refine (mul64_any _ _ _).mono ?_; rintro e w' ⟨hi, lo, rfl, rfl⟩))
    obtain ⟨r0, hr0⟩ : ∃ x', x' = bits BinOp.and IntKind.u64 lo 4503599627370495 := ⟨_, rfl⟩
    rw [← hr0]
    obtain ⟨r1, hr1⟩ : ∃ x', x' = bits BinOp.and IntKind.u64 (bits BinOp.or IntKind.u64 (lo / 4503599627370496) (IntKind.u64.wrap (hi * 4096))) 4503599627370495 := ⟨_, rfl⟩
    rw [← hr1]
    obtain ⟨r2, hr2⟩ : ∃ x', x' = hi / 1099511627776 := ⟨_, rfl⟩
    rw [← hr2]
    clear hr0 hr1 hr2
    obtain ⟨w, rfl⟩ : ∃ x', x' = w' := ⟨w', rfl⟩
    go_loopw [0, 11, 12, 44] (fun u _ _ i wr => ∃ (t : Nat) (v : Value) (n' : Nat), t ≤ 3 ∧ i = .int .i64 (t : Int) ∧ u = v ∧ n' ≤ n + t ∧ FRow wr K v n' ∧ KChg K w wr) (fun _ _ _ i _ => 3 - (intOf i).toNat)
    case atStart => exact ⟨0, _, n, by omega, rfl, rfl, by omega, HV.out, KChg.refl _ _⟩
    case round =>
      obtain ⟨t, v, n', ht, rfl, rfl, hn', hrw, hc⟩ := hrel
      obtain ⟨b0, d0, rfl⟩ := hrw.len
      have HRW := Hid.mk hrw
      have HC := Hid.mk hc
      clear hrw hc
      have h4 : t = 0 ∨ t = 1 ∨ t = 2 ∨ t = 3 := by omega
      rcases h4 with rfl | rfl | rfl | rfl
      · by_cases hr0 : r0 = 0
        · have hr : (r0 == 0) = true := by simp [hr0]
          go_wp2_with fail
          go_roundw
          case rel => exact ⟨0 + 1, _, n', by omega, by go_num, rfl, by omega, HRW.out, HC.out⟩
          case measure => simp [intOf]
        · have hr : (r0 == 0) = false := by simp [hr0]
          go_wp2_with fail
          refine (Ldexp_any _ _ _).mono ?_
          rintro e w1 ⟨y, nn, rfl, rfl⟩
          go_wp2_with fail
          refine (copysign_any _ _ _).mono ?_
          rintro e w1 ⟨y', rfl, rfl⟩
          have hc1 : KChg K wr (wr.drewN nn) := (KChg.refl _ _).drewN _
          have hKr : ∀ b, K b → b < wr.heap.size := fun b hb => Nat.lt_of_lt_of_le (HK.out b hb) HC.out.size
          have hb2 : Below wr.heap.size wr ((wr.alloc (.cells #[.float .f64 y'] 24)).drewN nn) := below_drewN ((Below.refl _ _).alloc (Nat.le_refl _) _) _
          have hc2 : KChg K wr ((wr.alloc (.cells #[.float .f64 y'] 24)).drewN nn) := KChg.of_below hKr hb2
          obtain ⟨v1, w2, hrun, hr2, hc3⟩ := append_flt ((wr.alloc (.cells #[.float .f64 y'] 24)).drewN nn) K _ n' wr.heap.size y' (HRW.out.chg hc2) (heap_alloc_new wr _) (fun b hb => Nat.lt_of_lt_of_le (hKr b hb) hb2.size) (by omega)
          have HF : Hid (FRow w2 K v1 (n' + 1) ∧ KChg K w w2) := ⟨hr2, (HC.out.trans hc2).trans hc3⟩
          have HRUN := Hid.mk hrun
          clear hc1 hKr hb2 hc2 hrun hr2 hc3
          go_wp2_with (at_builtin; refine Go.Lib.wpList_append_run _ rfl _ _ 22 22 rfl _ _ rfl rfl v1 w2 HRUN.out ?_)
          go_roundw
          case rel => exact ⟨0 + 1, _, n' + 1, by omega, by go_num, rfl, by omega, HF.out.1, HF.out.2⟩
          case measure => simp [intOf]
      · by_cases hr0 : r1 = 0
        · have hr : (r1 == 0) = true := by simp [hr0]
          go_wp2_with fail
          go_roundw
          case rel => exact ⟨1 + 1, _, n', by omega, by go_num, rfl, by omega, HRW.out, HC.out⟩
          case measure => simp [intOf]
        · have hr : (r1 == 0) = false := by simp [hr0]
          go_wp2_with fail
          refine (Ldexp_any _ _ _).mono ?_
          rintro e w1 ⟨y, nn, rfl, rfl⟩
          go_wp2_with fail
          refine (copysign_any _ _ _).mono ?_
          rintro e w1 ⟨y', rfl, rfl⟩
          have hc1 : KChg K wr (wr.drewN nn) := (KChg.refl _ _).drewN _
          have hKr : ∀ b, K b → b < wr.heap.size := fun b hb => Nat.lt_of_lt_of_le (HK.out b hb) HC.out.size
          have hb2 : Below wr.heap.size wr ((wr.alloc (.cells #[.float .f64 y'] 24)).drewN nn) := below_drewN ((Below.refl _ _).alloc (Nat.le_refl _) _) _
          have hc2 : KChg K wr ((wr.alloc (.cells #[.float .f64 y'] 24)).drewN nn) := KChg.of_below hKr hb2
          obtain ⟨v1, w2, hrun, hr2, hc3⟩ := append_flt ((wr.alloc (.cells #[.float .f64 y'] 24)).drewN nn) K _ n' wr.heap.size y' (HRW.out.chg hc2) (heap_alloc_new wr _) (fun b hb => Nat.lt_of_lt_of_le (hKr b hb) hb2.size) (by omega)
          have HF : Hid (FRow w2 K v1 (n' + 1) ∧ KChg K w w2) := ⟨hr2, (HC.out.trans hc2).trans hc3⟩
          have HRUN := Hid.mk hrun
          clear hc1 hKr hb2 hc2 hrun hr2 hc3
          go_wp2_with (at_builtin; refine Go.Lib.wpList_append_run _ rfl _ _ 22 22 rfl _ _ rfl rfl v1 w2 HRUN.out ?_)
          go_roundw
          case rel => exact ⟨1 + 1, _, n' + 1, by omega, by go_num, rfl, by omega, HF.out.1, HF.out.2⟩
          case measure => simp [intOf]
      · by_cases hr0 : r2 = 0
        · have hr : (r2 == 0) = true := by simp [hr0]
          go_wp2_with fail
          go_roundw
          case rel => exact ⟨2 + 1, _, n', by omega, by go_num, rfl, by omega, HRW.out, HC.out⟩
          case measure => simp [intOf]
        · have hr : (r2 == 0) = false := by simp [hr0]
          go_wp2_with fail
          refine (Ldexp_any _ _ _).mono ?_
          rintro e w1 ⟨y, nn, rfl, rfl⟩
          go_wp2_with fail
          refine (copysign_any _ _ _).mono ?_
          rintro e w1 ⟨y', rfl, rfl⟩
          have hc1 : KChg K wr (wr.drewN nn) := (KChg.refl _ _).drewN _
          have hKr : ∀ b, K b → b < wr.heap.size := fun b hb => Nat.lt_of_lt_of_le (HK.out b hb) HC.out.size
          have hb2 : Below wr.heap.size wr ((wr.alloc (.cells #[.float .f64 y'] 24)).drewN nn) := below_drewN ((Below.refl _ _).alloc (Nat.le_refl _) _) _
          have hc2 : KChg K wr ((wr.alloc (.cells #[.float .f64 y'] 24)).drewN nn) := KChg.of_below hKr hb2
          obtain ⟨v1, w2, hrun, hr2, hc3⟩ := append_flt ((wr.alloc (.cells #[.float .f64 y'] 24)).drewN nn) K _ n' wr.heap.size y' (HRW.out.chg hc2) (heap_alloc_new wr _) (fun b hb => Nat.lt_of_lt_of_le (hKr b hb) hb2.size) (by omega)
          have HF : Hid (FRow w2 K v1 (n' + 1) ∧ KChg K w w2) := ⟨hr2, (HC.out.trans hc2).trans hc3⟩
          have HRUN := Hid.mk hrun
          clear hc1 hKr hb2 hc2 hrun hr2 hc3
          go_wp2_with (at_builtin; refine Go.Lib.wpList_append_run _ rfl _ _ 22 22 rfl _ _ rfl rfl v1 w2 HRUN.out ?_)
          go_roundw
          case rel => exact ⟨2 + 1, _, n' + 1, by omega, by go_num, rfl, by omega, HF.out.1, HF.out.2⟩
          case measure => simp [intOf]
      · go_wp2_with fail
        go_ret
        exact ⟨_, n', rfl, hn', HRW.out, HC.out⟩
  · go_wp2_with fail
    go_ret
    exact ⟨_, n, rfl, by omega, HV.out, KChg.refl _ _⟩
end Go.Proofs.YbulkdzeiDoor.C
