/-
  THE WALK of add: its parts.
-/
import Derived.Test.YbulkdzeiDoorCRow
namespace Go.Proofs.YbulkdzeiDoor.C
open Go Go.RowKit
open Go.Proofs.YbulkdzeiDoor.A (fbits ffrom run_fadd addV addN run_store_float)
attribute [local go_sem ↓] run_fadd run_fsub run_fmul
attribute [local go_sem] fbits ffrom run_store_float setCell_drewN alloc_drewN

/-- Which rows of floats there are: the sums' parts, the terms. -/
def FRs (n : Nat) (pv : Nat → Value) (pm : Nat → Nat) (vm : Value) (km : Nat) (v : Value) (k : Nat) : Prop := (∃ i, i < n ∧ v = pv i ∧ k = pm i) ∨ (v = vm ∧ k = km)

section
variable {w w' : World} {K0 : Nat → Prop} {base g nd nL nT nS : Nat} {D : Nat → Int} {L T : Nat → Nat} {vd vl vt vs : Value} {pv : Nat → Value} {gcs : Array Value} {FR : Value → Nat → Prop}
theorem GR.setg (h : GR w K0 base g nd nL nT nS D L T vd vl vt vs pv gcs FR) (o : Nat) (v : Value) : GR (w.setCell ⟨g, o, none⟩ v) K0 base g nd nL nT nS D L T vd vl vt vs pv (gcs.setIfInBounds o v) FR := by
  have hk : ∀ b, b ≠ g → (w.setCell ⟨g, o, none⟩ v).heap[b]? = w.heap[b]? := fun b hb => Below.heap_setCell _ _ _ _ hb
  have ho : ∀ {e : TypeId} {size m : Nat} {u : Value} {xs : List Value}, w.ownsRow base e size u m xs → (52 : TypeId) ≠ e → (w.setCell ⟨g, o, none⟩ v).ownsRow base e size u m xs := fun {e size m u xs} hr he =>
    own_heap hr (fun b hb => hk b (fun e' => own_ne hr h.hg he (e' ▸ hb)))
  obtain ⟨xs, hx1, hx2⟩ := h.rs
  exact
    { hg := heap_setCell_same h.hg v, rd := ho h.rd (by decide), rl := ho h.rl (by decide), rt := ho h.rt (by decide), rs := ⟨xs, ho hx1 (by decide), hx2⟩
      rf := fun u k hu => by
        rcases h.rf u k hu with h1 | ⟨b, cap, h1, h2, h3, h4, c, h5, h6⟩
        · exact .inl h1
        · exact .inr ⟨b, cap, h1, h2, h3, h4, c, (hk b (fun e => h4 (.inr (.inl e)))).trans h5, h6⟩
      lt := h.lt, nk := h.nk, bg := h.bg, kl := fun b hb => by simp [World.setCell]; exact h.kl b hb, k0 := h.k0, kb := by simp [World.setCell]; exact h.kb }
theorem GR.ng (h : GR w K0 base g nd nL nT nS D L T vd vl vt vs pv gcs FR) : ¬ K0 g := fun hb => (h.nk g hb).1 rfl
end

section
variable {w : World} {K0 : Nat → Prop} {base g n nL nT nS : Nat} {D : Nat → Int} {L T : Nat → Nat} {vd vl vt vs : Value} {pv : Nat → Value} {gcs : Array Value} {FR : Value → Nat → Prop}
theorem stepD (h : GR w K0 base g n nL nT nS D L T vd vl vt vs pv gcs FR) (hn : n ≤ 100000) {hA : Nat} {d : Int} (hh : w.heap[hA]? = some (.cells #[.float .f64 (fi d)] 24 (0, 0))) :
    ∃ a c w', (Builtin.append_ #[22, 22] 22 #[vd, .slice (some ⟨hA, 0, none⟩) 1 1]).run Ybad.prog w = .ok (.slice a (n + 1) c) w' ∧ (GR w' K0 base g (n + 1) nL nT nS (upd D n d) L T (.slice a (n + 1) c) vl vt vs pv gcs FR ∧ Keep K0 w w') ∧ ∀ (b : Nat) (x : Array Value), w.heap[b]? = some (Obj.cells x 3 (0, 0)) → w'.heap[b]? = some (Obj.cells x 3 (0, 0)) := by
  obtain ⟨v', w', h1, h2, h3, h4⟩ := app24 w base n hA D d vd hn h.rd h.kb hh
  obtain ⟨a, c, rfl⟩ := own_form h2
  exact ⟨a, c, w', h1, h.appD h2 h3 h4, fun b x hb => (h3.block b (lt_of_heap hb) (fun e => own_ne h.rd hb (by decide) e.symm)).trans hb⟩
theorem stepL (h : GR w K0 base g nL n nT nS D L T vd vl vt vs pv gcs FR) (hn : n ≤ 100000) {hA m : Nat} (hh : w.heap[hA]? = some (.cells #[.int .i64 (m : Int)] 3 (0, 0))) :
    ∃ a c w', (Builtin.append_ #[37, 37] 37 #[vl, .slice (some ⟨hA, 0, none⟩) 1 1]).run Ybad.prog w = .ok (.slice a (n + 1) c) w' ∧ (GR w' K0 base g nL (n + 1) nT nS D (upd L n m) T vd (.slice a (n + 1) c) vt vs pv gcs FR ∧ Keep K0 w w') := by
  obtain ⟨v', w', h1, h2, h3, h4⟩ := app3 w base n hA m L vl hn h.rl h.kb hh
  obtain ⟨a, c, rfl⟩ := own_form h2
  exact ⟨a, c, w', h1, h.appL h2 h3 h4⟩
theorem stepT (h : GR w K0 base g nL nT n nS D L T vd vl vt vs pv gcs FR) (hn : n ≤ 100000) {hA m : Nat} (hh : w.heap[hA]? = some (.cells #[.int .i64 (m : Int)] 3 (0, 0))) :
    ∃ a c w', (Builtin.append_ #[37, 37] 37 #[vt, .slice (some ⟨hA, 0, none⟩) 1 1]).run Ybad.prog w = .ok (.slice a (n + 1) c) w' ∧ (GR w' K0 base g nL nT (n + 1) nS D L (upd T n m) vd vl (.slice a (n + 1) c) vs pv gcs FR ∧ Keep K0 w w') ∧ ∀ (b : Nat) (x : Array Value), w.heap[b]? = some (Obj.cells x 73 (0, 0)) → w'.heap[b]? = some (Obj.cells x 73 (0, 0)) := by
  obtain ⟨v', w', h1, h2, h3, h4⟩ := app3 w base n hA m T vt hn h.rt h.kb hh
  obtain ⟨a, c, rfl⟩ := own_form h2
  exact ⟨a, c, w', h1, h.appT h2 h3 h4, fun b x hb => (h3.block b (lt_of_heap hb) (fun e => own_ne h.rt hb (by decide) e.symm)).trans hb⟩
theorem stepS (h : GR w K0 base g nL nT nS n D L T vd vl vt vs pv gcs FR) (hn : n ≤ 100000) {hA x k c0 : Nat} {p : Bool} {a0 : Option Addr} (hh : w.heap[hA]? = some (.cells #[.slice a0 k c0, .float .f64 x, .bool p] 73 (0, 0))) :
    ∃ a c w', (Builtin.append_ #[50, 50] 50 #[vs, .slice (some ⟨hA, 0, none⟩) 1 1]).run Ybad.prog w = .ok (.slice a (n + 1) c) w' ∧ (GR w' K0 base g nL nT nS (n + 1) D L T vd vl vt (.slice a (n + 1) c) (upd pv n (.slice a0 k c0)) gcs FR ∧ Keep K0 w w') := by
  obtain ⟨xs, hx1, hx2⟩ := h.rs
  obtain ⟨v', w', h1, h2, h3, h4⟩ := app73 w base n hA xs _ _ _ vs hn hx1 h.kb hh ⟨rfl, rfl, rfl⟩
  obtain ⟨a, c, rfl⟩ := own_form h2
  have hl : xs.length = n * 3 := hx1.1
  refine ⟨a, c, w', h1, h.appS (pv' := upd pv n (.slice a0 k c0)) ⟨_, h2, fun i hi => ?_⟩ h3 h4⟩
  by_cases hin : i = n
  · subst hin
    refine ⟨x, p, ?_, ?_, ?_⟩
    · rw [upd_at, List.getElem?_append_right (by omega), hl, Nat.sub_self]; rfl
    · rw [List.getElem?_append_right (by omega), hl, show i * 3 + 1 - i * 3 = 1 by omega]; rfl
    · rw [List.getElem?_append_right (by omega), hl, show i * 3 + 2 - i * 3 = 2 by omega]; rfl
  · obtain ⟨x', p', e0, e1, e2⟩ := hx2 i (by omega)
    refine ⟨x', p', ?_, ?_, ?_⟩
    · rw [upd_ne _ _ hin, List.getElem?_append_left (by omega)]; exact e0
    · rw [List.getElem?_append_left (by omega)]; exact e1
    · rw [List.getElem?_append_left (by omega)]; exact e2
theorem below_al (w1 : World) (o : Obj) : Below w1.heap.size w1 (w1.alloc o) := (Below.refl _ _).alloc (Nat.le_refl _) _
end

/-- Behind the first statement of add. -/
def Add1 (w0 : World) (K0 : Nat → Prop) (base g n m : Nat) (d : Int) (D : Nat → Int) (L T : Nat → Nat) (vt vs vm : Value) (pv : Nat → Value) (pm : Nat → Nat) (km : Nat) (tot fst : Int) (w : World) : Prop :=
  ∃ vd vl, GR w K0 base g (n + 1) (n + 1) n n (upd D n d) (upd L n m) T vd vl vt vs pv #[vd, vl, vt, vs, vm, .int .i64 tot, .int .i64 fst] (FRs n pv pm vm km) ∧ Keep K0 w0 w

theorem GM.of_gr {w : World} {K0 : Nat → Prop} {base g n n1 : Nat} {Bd : Nat → Nat} {D : Nat → Int} {L T : Nat → Nat} {tot fst : Nat} {vd vl vt vs vm : Value} {pv : Nat → Value} {pm : Nat → Nat} {km : Nat}
    (h : GR w K0 base g n1 n1 n n D L T vd vl vt vs pv #[vd, vl, vt, vs, vm, .int .i64 tot, .int .i64 fst] (FRs n pv pm vm km)) (hb : ∀ i, i < n → pm i ≤ Bd i) : GM w K0 base g n n1 Bd D L T tot fst vd vl vt vs vm pv pm km :=
  { hg := h.hg, rd := h.rd, rl := h.rl, rt := h.rt, rs := h.rs, rp := fun i hi => ⟨h.rf _ _ (.inl ⟨i, hi, rfl, rfl⟩), hb i hi⟩, rm := h.rf _ _ (.inr ⟨rfl, rfl⟩), lt := h.lt, nk := h.nk, bg := h.bg, kl := h.kl, k0 := h.k0, kb := h.kb }
theorem GM.gr {w : World} {K0 : Nat → Prop} {base g n n1 : Nat} {Bd : Nat → Nat} {D : Nat → Int} {L T : Nat → Nat} {tot fst : Nat} {vd vl vt vs vm : Value} {pv : Nat → Value} {pm : Nat → Nat} {km : Nat}
    (h : GM w K0 base g n n1 Bd D L T tot fst vd vl vt vs vm pv pm km) (FR : Value → Nat → Prop) (hF : ∀ v k, FR v k → FRow w (KS K0 g vd vl vt vs) v k) : GR w K0 base g n1 n1 n n D L T vd vl vt vs pv #[vd, vl, vt, vs, vm, .int .i64 tot, .int .i64 fst] FR :=
  { hg := h.hg, rd := h.rd, rl := h.rl, rt := h.rt, rs := h.rs, rf := hF, lt := h.lt, nk := h.nk, bg := h.bg, kl := h.kl, k0 := h.k0, kb := h.kb }

theorem add1_end {w0 w : World} {K0 : Nat → Prop} {base g n m : Nat} {d : Int} {D : Nat → Int} {L T : Nat → Nat} {vd vl v1 v2 vt vs vm : Value} {pv : Nat → Value} {pm : Nat → Nat} {km : Nat} {tot fst : Int}
    (h : GR w K0 base g (n + 1) (n + 1) n n (upd D n d) (upd L n m) T v1 v2 vt vs pv #[vd, vl, vt, vs, vm, .int .i64 tot, .int .i64 fst] (FRs n pv pm vm km)) (hk : Keep K0 w0 w) :
    Add1 w0 K0 base g n m d D L T vt vs vm pv pm km tot fst ((w.setCell ⟨g, 0, none⟩ v1).setCell ⟨g, 1, none⟩ v2) :=
  ⟨v1, v2, (h.setg 0 v1).setg 1 v2, (hk.trans (Keep.set h.ng _)).trans (Keep.set h.ng _)⟩

/-- Behind the last but one statement of add. -/
def Add2 (w0 : World) (K0 : Nat → Prop) (base g n m C : Nat) (d : Int) (D : Nat → Int) (L T : Nat → Nat) (vd vl vm : Value) (pv : Nat → Value) (pm : Nat → Nat) (km : Nat) (v : Value) (m' : Nat) (tot fst : Int) (w : World) : Prop :=
  ∃ vt vs, GR w K0 base g (n + 1) (n + 1) (n + 1) (n + 1) (upd D n d) (upd L n m) (upd T n C) vd vl vt vs (upd pv n v) #[vd, vl, vt, vs, vm, .int .i64 tot, .int .i64 fst] (FRs (n + 1) (upd pv n v) (upd pm n m') vm km) ∧ Keep K0 w0 w
theorem add2_end {w0 w : World} {K0 : Nat → Prop} {base g n m C : Nat} {d : Int} {D : Nat → Int} {L T : Nat → Nat} {vd vl v1 v2 vt vs vm v : Value} {pv : Nat → Value} {pm : Nat → Nat} {km m' : Nat} {tot fst : Int}
    (h : GR w K0 base g (n + 1) (n + 1) (n + 1) (n + 1) (upd D n d) (upd L n m) (upd T n C) vd vl v1 v2 (upd pv n v) #[vd, vl, vt, vs, vm, .int .i64 tot, .int .i64 fst] (FRs (n + 1) (upd pv n v) (upd pm n m') vm km)) (hk : Keep K0 w0 w) :
    Add2 w0 K0 base g n m C d D L T vd vl vm pv pm km v m' tot fst ((w.setCell ⟨g, 2, none⟩ v1).setCell ⟨g, 3, none⟩ v2) :=
  ⟨v1, v2, (h.setg 2 v1).setg 3 v2, (hk.trans (Keep.set h.ng _)).trans (Keep.set h.ng _)⟩

set_option maxRecDepth 100000 in
set_option maxHeartbeats 2000000 in
theorem addg_any {w : World} {K0 : Nat → Prop} {base g n m s : Nat} {d : Int} {D : Nat → Int} {L T : Nat → Nat} {vd vl vt vs vm : Value} {pv : Nat → Value} {pm : Nat → Nat} {km : Nat} {tot fst : Nat} (hn : n ≤ 4096) (hs : s ≤ 4096) (hm : m ≤ 5) (hL : ∀ i, i < n → L i ≤ 5) (htb : Tab w) (hK2 : K0 2) (hpm : ∀ i, i < n → pm i ≤ (s + 3) * low (i + 1)) (hT : T = fun i => node L (i + 1)) (htot : tot = sm L 0 n)
    (h : GR w K0 base g n n n n D L T vd vl vt vs pv #[vd, vl, vt, vs, vm, .int .i64 tot, .int .i64 fst] (FRs n pv pm vm km)) :
    Calls Ybad.prog 10 #[.pointer (some ⟨g, 0, none⟩), .float .f64 (fi d), .int .i64 m] w fun e w' => e = .returned (.int .i64 (n : Int)) ∧ Ended K0 base g (n + 1) (s + 1) (upd D n d) (upd L n m) fst w w' := by
  obtain ⟨a0, d0, hv0⟩ := own_form h.rd
  obtain ⟨a1, d1, hv1⟩ := own_form h.rl
  subst hv0 hv1
  have c0 : w.cell? ⟨g, 0, none⟩ = some (.slice a0 n d0) := cell_heap h.hg rfl
  have c1 : w.cell? ⟨g, 1, none⟩ = some (.slice a1 n d1) := cell_heap h.hg rfl
  have HR := Hid.mk h
  have HTB := Hid.mk htb
  have HPM := Hid.mk hpm
  have HTT := Hid.mk hT
  have HTOT := Hid.mk htot
  have HLL := Hid.mk hL
  clear h htb hpm hT htot hL
  go_enter Ybad.func10, Ybad.ntmps10
  go_upto_region 2 with fail
  go_cut [] from 19 to 38 (fun wx => Add1 w K0 base g n m d D L T vt vs vm pv pm km tot fst wx)
  case first =>
    --[[1
    refine wp_region_ins3 [0, 1, 2, 3, 4, 6, 9, 10, 11, 13] [5, 12] 14 [7, 8] [15, 16, 17, 18, 19, 20, 21] [0, 1, 2, 3, 4, 5, 6, 7, 8, 9, 10, 11, 12, 13, 14] (fun w' => w'.cell? ⟨g, 0, none⟩ = some (.slice a0 n d0) ∧ w'.cell? ⟨g, 1, none⟩ = some (.slice a1 n d1)) (by kernel_rfl) (by kernel_rfl) (fun _ _ d _ _ h => by cases d <;> exact h) ⟨c0, c1⟩ ?_
    iterate 10 (refine wpHead_cons (v := ?_) rfl (by rfl) ?_ ?_; rotate_left 1; (focus (rintro w0 -; go_simp; first | done | with_reducible rfl)); simp only [Act.put, List.setIfInBounds_toArray, List.set_cons_zero, List.set_cons_succ])
    refine wpHead_nil ?_
    iterate 2 (refine wpHead_cons (v := ?_) rfl (by rfl) ?_ ?_; rotate_left 1; (focus (rintro w0 ⟨s1, s2⟩; go_simp; first | done | with_reducible rfl)); simp only [Act.put, List.setIfInBounds_toArray, List.set_cons_zero, List.set_cons_succ])
    refine wpHead_nil ?_
    have hG0 : GR w.drew K0 base g n n n n D L T (.slice a0 n d0) (.slice a1 n d1) vt vs pv _ (FRs n pv pm vm km) := HR.out.below ⟨rfl, rfl, rfl, Nat.le_refl _, fun _ _ => rfl⟩
    have hk0 : Keep K0 w w.drew := ⟨rfl, rfl, rfl, Nat.le_refl _, fun _ _ => rfl⟩
    obtain ⟨wz, hwz⟩ : ∃ x, x = w.drew := ⟨_, rfl⟩
    rw [← hwz] at hG0 hk0 ⊢
    clear hwz
    have HG0 := Hid.mk hG0
    have HK0 := Hid.mk hk0
    clear hG0 hk0 c0 c1
    have cS : ∀ {w1 : World} {e1 e2 e3 e4 : Nat} {D1 : Nat → Int} {L1 T1 : Nat → Nat} {x1 x2 x3 x4 : Value} {p1 : Nat → Value} {F1 : Value → Nat → Prop}, GR w1 K0 base g e1 e2 e3 e4 D1 L1 T1 x1 x2 x3 x4 p1 #[.slice a0 n d0, .slice a1 n d1, vt, vs, vm, .int .i64 tot, .int .i64 fst] F1 → w1.cell? ⟨g, 0, none⟩ = some (.slice a0 n d0) ∧ w1.cell? ⟨g, 1, none⟩ = some (.slice a1 n d1) := fun h => ⟨cell_heap h.hg rfl, cell_heap h.hg rfl⟩
    have HCS : Hid _ := @cS
    clear cS
    refine wpIns_keep ?_ rfl (by rfl) (fun KK hKK => ?_)
    · -- 14 7 8 15
      refine wpTail_keep rfl (by rfl) (fun KK hKK => ?_)
      go_simp
      have hGB := HG0.out.below (below_al wz (.cells #[.int .i64 (m : Int)] 3))
      have hB : (wz.alloc (.cells #[.int .i64 (m : Int)] 3)).heap[wz.heap.size]? = some (.cells #[.int .i64 (m : Int)] 3 (0, 0)) := heap_alloc_new _ _
      obtain ⟨wb, hwb⟩ : ∃ x, x = wz.alloc (.cells #[.int .i64 (m : Int)] 3) := ⟨_, rfl⟩
      have hkB : Keep K0 wz wb := by rw [hwb]; exact Keep.of_below HG0.out.kl (below_al _ _)
      rw [← hwb] at hGB hB ⊢
      refine hKK.out _ _ (HCS.out hGB) ?_
      clear hKK KK hwb
      refine wpTail_keep rfl (by rfl) (fun KK hKK => ?_)
      go_simp
      have hGA := hGB.below (below_al wb (.cells #[.float .f64 (fi d)] 24))
      have hA : (wb.alloc (.cells #[.float .f64 (fi d)] 24)).heap[wb.heap.size]? = some (.cells #[.float .f64 (fi d)] 24 (0, 0)) := heap_alloc_new _ _
      have hB2 := heap_old hB (.cells #[.float .f64 (fi d)] 24)
      obtain ⟨wa, hwa⟩ : ∃ x, x = wb.alloc (.cells #[.float .f64 (fi d)] 24) := ⟨_, rfl⟩
      have hkA : Keep K0 wz wa := hkB.trans (by rw [hwa]; exact Keep.of_below hGB.kl (below_al _ _))
      rw [← hwa] at hGA hA hB2 ⊢
      refine hKK.out _ _ (HCS.out hGA) ?_
      clear hKK KK hwa hGB hB hkB
      obtain ⟨av1, cv1, w3, hrun1, hR3, hB3'⟩ := stepD (d := d) hGA (by omega) hA
      have hB3 := hB3' _ _ hB2
      refine wpTail_keep rfl (by rfl) (fun KK hKK => ?_)
      refine Go.Lib.wp_append_run _ _ _ 22 22 rfl _ _ rfl rfl _ w3 hrun1 ?_
      refine hKK.out _ _ (HCS.out hR3.1) ?_
      clear hKK KK hrun1 hGA hA hB2 hB3'
      obtain ⟨av2, cv2, w4, hrun2, hR4⟩ := stepL (m := m) hR3.1 (by omega) hB3
      have hkk := ((HK0.out.trans hkA).trans hR3.2).trans hR4.2
      have c0' := cell_heap (o := 0) hR4.1.hg rfl
      have q0 := frozen_heap (o := 0) hR4.1.hg
      have c1' := cell_heap (o := 1) hR4.1.hg rfl
      have q1 := frozen_heap (o := 1) hR4.1.hg
      have HFIN := Hid.mk (add1_end hR4.1 hkk)
      have HRUN2 := Hid.mk hrun2
      clear hR4 hrun2 hkk hR3 hkA hB3
      refine wpTail_list [15, 16, 17, 18, 19, 20, 21] _ _ rfl ?_
      simp only [List.filterMap_cons, List.filterMap_nil, List.getElem?_cons_succ, List.getElem?_cons_zero]
      refine Go.Lib.wpList_append_run _ rfl _ _ 37 37 rfl _ _ rfl rfl (.slice av2 (n + 1) cv2) w4 HRUN2.out ?_
      go_wp2_with fail
      go_meet
      exact HFIN.out
    · go_simp
      have hGA := HG0.out.below (below_al wz (.cells #[.float .f64 (fi d)] 24))
      have hA : (wz.alloc (.cells #[.float .f64 (fi d)] 24)).heap[wz.heap.size]? = some (.cells #[.float .f64 (fi d)] 24 (0, 0)) := heap_alloc_new _ _
      obtain ⟨wa, hwa⟩ : ∃ x, x = wz.alloc (.cells #[.float .f64 (fi d)] 24) := ⟨_, rfl⟩
      have hkA0 : Keep K0 wz wa := by rw [hwa]; exact Keep.of_below HG0.out.kl (below_al _ _)
      rw [← hwa] at hGA hA ⊢
      refine hKK.out _ _ (HCS.out hGA) ?_
      clear hKK KK hwa
      refine wpIns_keep ?_ rfl (by rfl) (fun KK hKK => ?_)
      · -- 7 14 8 15
        refine wpTail_keep rfl (by rfl) (fun KK hKK => ?_)
        go_simp
        have hGB := hGA.below (below_al wa (.cells #[.int .i64 (m : Int)] 3))
        have hB : (wa.alloc (.cells #[.int .i64 (m : Int)] 3)).heap[wa.heap.size]? = some (.cells #[.int .i64 (m : Int)] 3 (0, 0)) := heap_alloc_new _ _
        have hA2 := heap_old hA (.cells #[.int .i64 (m : Int)] 3)
        obtain ⟨wb, hwb⟩ : ∃ x, x = wa.alloc (.cells #[.int .i64 (m : Int)] 3) := ⟨_, rfl⟩
        have hkA : Keep K0 wz wb := hkA0.trans (by rw [hwb]; exact Keep.of_below hGA.kl (below_al _ _))
        rw [← hwb] at hGB hB hA2 ⊢
        refine hKK.out _ _ (HCS.out hGB) ?_
        clear hKK KK hwb hkA0 hGA hA
        obtain ⟨av1, cv1, w3, hrun1, hR3, hB3'⟩ := stepD (d := d) hGB (by omega) hA2
        have hB3 := hB3' _ _ hB
        refine wpTail_keep rfl (by rfl) (fun KK hKK => ?_)
        refine Go.Lib.wp_append_run _ _ _ 22 22 rfl _ _ rfl rfl _ w3 hrun1 ?_
        refine hKK.out _ _ (HCS.out hR3.1) ?_
        clear hKK KK hrun1 hGB hB hA2 hB3'
        obtain ⟨av2, cv2, w4, hrun2, hR4⟩ := stepL (m := m) hR3.1 (by omega) hB3
        have hkk := ((HK0.out.trans hkA).trans hR3.2).trans hR4.2
        have c0' := cell_heap (o := 0) hR4.1.hg rfl
        have q0 := frozen_heap (o := 0) hR4.1.hg
        have c1' := cell_heap (o := 1) hR4.1.hg rfl
        have q1 := frozen_heap (o := 1) hR4.1.hg
        have HFIN := Hid.mk (add1_end hR4.1 hkk)
        have HRUN2 := Hid.mk hrun2
        clear hR4 hrun2 hkk hR3 hkA hB3
        refine wpTail_list [15, 16, 17, 18, 19, 20, 21] _ _ rfl ?_
        simp only [List.filterMap_cons, List.filterMap_nil, List.getElem?_cons_succ, List.getElem?_cons_zero]
        refine Go.Lib.wpList_append_run _ rfl _ _ 37 37 rfl _ _ rfl rfl (.slice av2 (n + 1) cv2) w4 HRUN2.out ?_
        go_wp2_with fail
        go_meet
        exact HFIN.out
      · -- 7 8 14 15
        obtain ⟨av1, cv1, w2, hrun1, hR2, -⟩ := stepD (d := d) hGA (by omega) hA
        refine Go.Lib.wp_append_run _ _ _ 22 22 rfl _ _ rfl rfl _ w2 hrun1 ?_
        refine hKK.out _ _ (HCS.out hR2.1) ?_
        clear hKK KK hrun1 hGA hA
        refine wpIns_nil ?_
        refine wpTail_keep rfl (by rfl) (fun KK hKK => ?_)
        go_simp
        have hG3 := hR2.1.below (below_al w2 (.cells #[.int .i64 (m : Int)] 3))
        have hB3 : (w2.alloc (.cells #[.int .i64 (m : Int)] 3)).heap[w2.heap.size]? = some (.cells #[.int .i64 (m : Int)] 3 (0, 0)) := heap_alloc_new _ _
        obtain ⟨w3, hw3⟩ : ∃ x, x = w2.alloc (.cells #[.int .i64 (m : Int)] 3) := ⟨_, rfl⟩
        have hk3 : Keep K0 w2 w3 := by rw [hw3]; exact Keep.of_below hR2.1.kl (below_al _ _)
        rw [← hw3] at hG3 hB3 ⊢
        refine hKK.out _ _ (HCS.out hG3) ?_
        clear hKK KK hw3
        have hR3 := And.intro hG3 hk3
        have hkA := hkA0.trans hR2.2
        clear hG3 hk3 hkA0 hR2
        obtain ⟨av2, cv2, w4, hrun2, hR4⟩ := stepL (m := m) hR3.1 (by omega) hB3
        have hkk := ((HK0.out.trans hkA).trans hR3.2).trans hR4.2
        have c0' := cell_heap (o := 0) hR4.1.hg rfl
        have q0 := frozen_heap (o := 0) hR4.1.hg
        have c1' := cell_heap (o := 1) hR4.1.hg rfl
        have q1 := frozen_heap (o := 1) hR4.1.hg
        have HFIN := Hid.mk (add1_end hR4.1 hkk)
        have HRUN2 := Hid.mk hrun2
        clear hR4 hrun2 hkk hR3 hkA hB3
        refine wpTail_list [15, 16, 17, 18, 19, 20, 21] _ _ rfl ?_
        simp only [List.filterMap_cons, List.filterMap_nil, List.getElem?_cons_succ, List.getElem?_cons_zero]
        refine Go.Lib.wpList_append_run _ rfl _ _ 37 37 rfl _ _ rfl rfl (.slice av2 (n + 1) cv2) w4 HRUN2.out ?_
        go_wp2_with fail
        go_meet
        exact HFIN.out
    --]]1
  case rest =>
    obtain ⟨vd', vl', hR, hkp⟩ := hcut
    have hM := GM.of_gr hR (Bd := fun i => (s + 3) * low (i + 1)) HPM.out
    obtain ⟨a4, d4, hvm⟩ := hM.rm.len
    have c4 : wc.cell? ⟨g, 4, none⟩ = some (.slice a4 km d4) := by rw [← hvm]; exact cell_heap hM.hg rfl
    have q4 := frozen_heap (o := 4) hM.hg
    have hrow : FRow wc (KS K0 g vd' vl' vt vs) (.slice a4 0 d4) 0 := by
      rcases hM.rm with ⟨h1, h2⟩ | ⟨b, cap, h1, h2, h3, h4, h5⟩
      · rw [hvm] at h1; cases h1
        exact .inl ⟨rfl, rfl⟩
      · rw [hvm] at h1; cases h1
        exact .inr ⟨b, d4, rfl, by omega, h3, h4, h5⟩
    have hcap : a4 = none → d4 = 0 := by
      rcases hM.rm with ⟨h1, h2⟩ | ⟨b, cap, h1, h2, _⟩
      · rw [hvm] at h1; cases h1; exact fun _ => rfl
      · rw [hvm] at h1; cases h1; exact fun h => by cases h
    have hlow := bits_low (n + 1) (by omega) (by omega)
    obtain ⟨hl0, hl1, hl2⟩ := low_pos (n + 1) (by omega)
    obtain ⟨l, hl⟩ : ∃ l, low (n + 1) = l := ⟨_, rfl⟩
    rw [hl] at hlow hl0 hl1 hl2
    have HLW := Hid.mk hl
    have hn1 : ((n + 1 : Nat) : Int) = (n : Int) + 1 := by omega
    rw [hn1] at hlow
    have d40 : (0 : Int) ≤ (d4 : Int) := by omega
    have htc : Tab wc := HTB.out.below (hkp.keep 2 hK2)
    have HM := Hid.mk hM
    have HROW := Hid.mk hrow
    have HKP := Hid.mk hkp
    have HVM := Hid.mk hvm
    have HTC := Hid.mk htc
    have HDV := Hid.mk hl2
    clear hR hM hrow hkp hl htc hvm hn1 hl2 c0 c1
    go_upto_region 5 with fail
    go_cut [] from 46 to 56 (fun wx => ∃ vm' km', km' ≤ 3 ∧ GM wx K0 base g n (n + 1) (fun i => (s + 3) * low (i + 1)) (upd D n d) (upd L n m) T tot fst vd' vl' vt vs vm' pv pm km' ∧ Keep K0 w wx)
    case first =>
      --[[2
      have key : ∀ e w1, (∃ v' n', e = Ending.returned v' ∧ n' ≤ 0 + 3 ∧ FRow w1 (KS K0 g vd' vl' vt vs) v' n' ∧ KChg (KS K0 g vd' vl' vt vs) wc w1) → ∃ a' c' n', e = Ending.returned (.slice a' n' c') ∧ w1.cell? ⟨g, 4, none⟩ = some (.slice a4 km d4) ∧ w1.frozen? ⟨g, 4, none⟩ = false ∧ Hid (∃ vm' km', km' ≤ 3 ∧ GM (w1.setCell ⟨g, 4, none⟩ (.slice a' n' c')) K0 base g n (n + 1) (fun i => (s + 3) * low (i + 1)) (upd D n d) (upd L n m) T tot fst vd' vl' vt vs vm' pv pm km' ∧ Keep K0 w (w1.setCell ⟨g, 4, none⟩ (.slice a' n' c'))) := fun e w1 hh => by
        obtain ⟨v', n', rfl, h1, h2, h3⟩ := hh
        obtain ⟨a', c', rfl⟩ := h2.len
        have hM1 := HM.out.chg0 h3
        refine ⟨a', c', n', rfl, ?_, frozen_heap hM1.hg, .slice a' n' c', n', by omega, ?_, ?_⟩
        · rw [← HVM.out]; exact cell_heap hM1.hg rfl
        · exact hM1.turn (by simp [World.setCell]) (fun b hb _ => Below.heap_setCell _ _ _ _ hb) (heap_setCell_same hM1.hg _) h2
        · exact (HKP.out.trans (Keep.of_k h3 (fun b hb => .inl hb))).trans (Keep.set (fun hb => (hM1.nk g hb).1 rfl) _)
      have HKEY := Hid.mk key
      clear key
      cases a4 with
      | none =>
        obtain rfl : d4 = 0 := hcap rfl
        clear hcap
        go_wp2_with fail
        refine (product_any (KS K0 g vd' vl' vt vs) _ 0 (fi d) (m : Int) wc HROW.out HM.out.kall (by omega) HTC.out).mono ?_
        intro e w1 hh
        obtain ⟨a', c', n', rfl, r1, r2, hfin⟩ := HKEY.out e w1 hh
        clear hh
        go_wp2_with fail
        go_meet
        exact hfin.out
      | some ad =>
        clear hcap
        go_wp2_with fail
        refine (product_any (KS K0 g vd' vl' vt vs) _ 0 (fi d) (m : Int) wc HROW.out HM.out.kall (by omega) HTC.out).mono ?_
        intro e w1 hh
        obtain ⟨a', c', n', rfl, r1, r2, hfin⟩ := HKEY.out e w1 hh
        clear hh
        go_wp2_with fail
        go_meet
        exact hfin.out
      --]]2
    case rest =>
      obtain ⟨vm2, km2, hkm2, hM2, hkp2⟩ := hcut
      obtain ⟨a2, d2, hvt⟩ := own_form hM2.rt
      have HVT := Hid.mk hvt
      have HM2 := Hid.mk hM2
      have HKP2 := Hid.mk hkp2
      have hwl : IntKind.i64.wrap ((n : Int) + 1 - (l : Int)) = (n : Int) + 1 - (l : Int) := by rw [IntKind.wrap_i64]; omega
      clear hM2 hkp2 hvt c4 q4 hcap d40
      go_wp2_with fail
      go_loopw [9, 10] (fun cc kk wr => ∃ (k : Nat) (vm' : Value) (km' : Nat), kk = .int .i64 (k : Int) ∧ k ≤ n ∧ n + 1 - l ≤ k ∧ cc = .int .i64 ((m + sm L k n : Nat) : Int) ∧ km' ≤ 3 + (s + 4) * (n - k) ∧ GM wr K0 base g n (n + 1) (fun i => (s + 3) * low (i + 1)) (upd D n d) (upd L n m) T tot fst vd' vl' vt vs vm' pv pm km' ∧ Keep K0 w wr) (fun _ kk _ => (intOf kk).toNat)
      case atStart => exact ⟨n, vm2, km2, rfl, Nat.le_refl _, by omega, by rw [sm_self L n n (Nat.le_refl _)]; rfl, by omega, HM2.out, HKP2.out⟩
      case round =>
        obtain ⟨k, vm3, km3, rfl, hk1, hk2, rfl, hkm3, hM3, hkp3⟩ := hrel
        obtain ⟨a5, d5, hvm3⟩ := hM3.rm.len
        have c4 : wr.cell? ⟨g, 4, none⟩ = some (.slice a5 km3 d5) := by rw [← hvm3]; exact cell_heap hM3.hg rfl
        by_cases hkl : n + 1 - l < k
        · --[[3
          have hsm := sm_small HLL.out hn k n (Nat.le_refl _)
          have hch := node_chain L k n (by omega) hk1
          have hlk := low_behind (m := n + 1) (B := n + 1 - l) (r := k - (n + 1 - l)) (by omega) (by rw [HLW.out]; exact Nat.dvd_sub HDV.out (Nat.dvd_refl l)) (by omega) (by rw [HLW.out]; omega)
          rw [show n + 1 - l + (k - (n + 1 - l)) = k by omega] at hlk
          have hsm2 := sm_small HLL.out hn (k - low k) n (Nat.le_refl _)
          rw [← hch] at hsm2
          have hlowk := bits_low k (by omega) (by omega)
          obtain ⟨hk0, hk00, -⟩ := low_pos k (by omega)
          have hpmk := HPM.out (k - 1) (by omega)
          rw [show k - 1 + 1 = k by omega] at hpmk
          obtain ⟨S, hS⟩ : ∃ S, sm L k n = S := ⟨_, rfl⟩
          obtain ⟨N, hN⟩ : ∃ N, node L k = N := ⟨_, rfl⟩
          obtain ⟨lk, hlk'⟩ : ∃ x, low k = x := ⟨_, rfl⟩
          rw [hS] at hsm hch hsm2 ⊢
          rw [hN] at hch hsm2
          rw [hlk'] at hlk hlowk hk0 hk00 hch hpmk
          have hbk : (s + 3) * lk + 1 ≤ (s + 4) * lk := by rw [show s + 4 = (s + 3) + 1 by omega, Nat.add_mul (s + 3) 1 lk, Nat.one_mul]; omega
          have hbk2 : (s + 4) * (n - (k - lk)) = (s + 4) * (n - k) + (s + 4) * lk := by rw [← Nat.mul_add]; congr 1; omega
          have hbk3 : (s + 4) * (n - (k - lk)) ≤ 4100 * 4096 := Nat.mul_le_mul (by omega) (by omega)
          obtain ⟨bt, ct, curt, t1, t2, -⟩ := own_cell hM3.rt (nl_get T (show k - 1 < n by omega))
          have hTk : T (k - 1) = N := by rw [HTT.out]; show node L (k - 1 + 1) = N; rw [show k - 1 + 1 = k by omega]; exact hN
          rw [hTk] at t2
          have hvt2 := HVT.out
          rw [t1] at hvt2
          cases hvt2
          have c2 : wr.cell? ⟨g, 2, none⟩ = some (.slice (some ⟨bt, 0, none⟩) n d2) := by rw [← t1]; exact cell_heap hM3.hg rfl
          obtain ⟨sb, cs, csum, xx, pp, hvs, hsb, s0, s1, s2⟩ := hM3.sumAt (show k - 1 < n by omega)
          have c3 : wr.cell? ⟨g, 3, none⟩ = some (.slice (some ⟨sb, 0, none⟩) n cs) := by rw [← hvs]; exact cell_heap hM3.hg rfl
          have hsum : SumAt wr (KS K0 g vd' vl' vt vs) sb ((k - 1) * 3) (pv (k - 1)) xx pp (pm (k - 1)) := ⟨cell_heap hsb s0, cell_heap hsb s1, cell_heap hsb s2, (hM3.rp (k - 1) (by omega)).1⟩
          have z0 : (0 : Int) ≤ (k : Int) - 1 := by omega
          have z1 : (k : Int) - 1 < (n : Int) := by omega
          have z2 : ((k : Int) - 1).toNat = k - 1 := by omega
          have z3 : (1 : Int) ≤ (k : Int) := by omega
          have z4 : (n : Int) + 1 - (l : Int) < (k : Int) := by omega
          have z6 : IntKind.i64.wrap ((k : Int) - 1) = (k : Int) - 1 := by rw [IntKind.wrap_i64]; omega
          have z7 : decide ((n : Int) + 1 - (l : Int) < (k : Int)) = true := by simp; omega
          have HM3 := Hid.mk hM3
          have HKP3 := Hid.mk hkp3
          have HSUM := Hid.mk hsum
          have HCH := Hid.mk hch
          have HVM3 := Hid.mk hvm3
          have HBK := Hid.mk hbk
          have HBK2 := Hid.mk hbk2
          have HBK3 := Hid.mk hbk3
          have HPMK := Hid.mk hpmk
          have HKM3 := Hid.mk hkm3
          clear hM3 hkp3 hsum hch hvm3 hS hN hlk' hTk t1 hvs hsb s0 s1 s2 hbk hbk2 hbk3 hpmk hkm3
          go_upto_region 10 with fail
          refine wp_region_pick [0, 1, 2, 3, 4, 5, 6, 7, 8, 9, 10, 11] [12, 13, 14, 15] [0, 1, 2, 3, 4, 5, 6, 7, 8, 9, 10, 11, 12] (fun w' => w'.cell? ⟨g, 3, none⟩ = some (.slice (some ⟨sb, 0, none⟩) n cs) ∧ w'.cell? ⟨g, 4, none⟩ = some (.slice a5 km3 d5)) (by kernel_rfl) (by kernel_rfl) (fun _ _ d _ _ h => by cases d <;> exact h) ⟨c3, c4⟩ ?_
          iterate 12 (refine wpHead_cons (v := ?_) rfl (by rfl) ?_ ?_; rotate_left 1; (focus (rintro w0 ⟨s1, s2⟩; go_simp; first | done | with_reducible rfl)); simp only [Act.put, List.setIfInBounds_toArray, List.set_cons_zero, List.set_cons_succ])
          refine wpHead_nil ?_
          obtain ⟨wu, hwu⟩ : ∃ x, x = wr.drew := ⟨_, rfl⟩
          rw [← hwu]
          have hbu : Below wr.heap.size wr wu := by rw [hwu]; exact (Below.refl _ _).drew
          have HMU := Hid.mk (HM3.out.below hbu)
          have HKU : Hid (Keep K0 w wu) := HKP3.out.trans (Keep.of_below HM3.out.kl hbu)
          have HSU : Hid (SumAt wu (KS K0 g vd' vl' vt vs) sb ((k - 1) * 3) (pv (k - 1)) xx pp (pm (k - 1))) := ⟨cell_below hbu HSUM.out.c0, cell_below hbu HSUM.out.c1, cell_below hbu HSUM.out.c2, (HMU.out.rp (k - 1) (by omega)).1⟩
          have HC3 : Hid (wu.cell? ⟨g, 3, none⟩ = some (.slice (some ⟨sb, 0, none⟩) n cs)) := cell_below hbu c3
          clear hwu hbu c2 c3 c4 t2
          refine wpTail_keep rfl (by rfl) (fun KK hKK => ?_)
          go_simp
          refine (terms_any (KS K0 g vd' vl' vt vs) sb ((k - 1) * 3) (pv (k - 1)) _ xx km3 (pm (k - 1)) pp wu HSU.out (by rw [← HVM3.out]; exact HMU.out.rm) HMU.out.kall (by have h1 := HKM3.out; have h2 := HBK3.out; have h3 := HBK2.out; have h4 := HPMK.out; have h5 := HBK.out; omega)).mono ?_
          rintro e wv ⟨v', n', rfl, hn', hfr, hkc⟩
          obtain ⟨a6, d6, rfl⟩ := hfr.len
          have hMv := HMU.out.chg0 hkc
          have c4' : wv.cell? ⟨g, 4, none⟩ = some vm3 := cell_heap hMv.hg rfl
          rw [HVM3.out] at c4'
          have q4' := frozen_heap (o := 4) hMv.hg
          have HFIN : Hid (GM (wv.setCell ⟨g, 4, none⟩ (.slice a6 n' d6)) K0 base g n (n + 1) (fun i => (s + 3) * low (i + 1)) (upd D n d) (upd L n m) T tot fst vd' vl' vt vs (.slice a6 n' d6) pv pm n' ∧ Keep K0 w (wv.setCell ⟨g, 4, none⟩ (.slice a6 n' d6))) :=
            ⟨hMv.turn (by simp [World.setCell]) (fun b hb _ => Below.heap_setCell _ _ _ _ hb) (heap_setCell_same hMv.hg _) hfr, (HKU.out.trans (Keep.of_k hkc (fun b hb => .inl hb))).trans (Keep.set (fun hb => (hMv.nk g hb).1 rfl) _)⟩
          have HN' := Hid.mk hn'
          refine hKK.out _ _ ⟨hkc.cell (.inr (.inl rfl)) HC3.out, c4'⟩ ?_
          clear hMv hfr hkc hn' hKK KK
          refine wpTail_list _ _ _ rfl ?_
          simp only [List.filterMap_cons, List.filterMap_nil, List.getElem?_cons_succ, List.getElem?_cons_zero]
          go_wp2_with fail
          go_roundw
          case rel =>
            refine ⟨k - lk, _, n', by go_num, by omega, by omega, ?_, ?_, HFIN.out.1, HFIN.out.2⟩
            · rw [← HCH.out]; go_num
            · have h1 := HKM3.out; have h3 := HBK2.out; have h4 := HPMK.out; have h5 := HBK.out; have h6 := HN'.out; omega
          case measure => simp [intOf]; omega
          --]]3
        · obtain ⟨C, hC⟩ : ∃ C, m + sm L k n = C := ⟨_, rfl⟩
          rw [hC]
          have HCC := Hid.mk (show C = m + sm L (n + 1 - l) n by rw [← hC, show k = n + 1 - l by omega])
          have z4 : ¬ ((n : Int) + 1 - (l : Int) < (k : Int)) := by omega
          have z7 : decide ((n : Int) + 1 - (l : Int) < (k : Int)) = false := by simp; omega
          have hCs : C ≤ 20485 := by have := sm_small HLL.out hn k n (Nat.le_refl _); omega
          have HKM : Hid (km3 ≤ 3 + (s + 4) * (l - 1)) := by rw [show l - 1 = n - k by omega]; exact hkm3
          have HM3 := Hid.mk hM3
          have HKP3 := Hid.mk hkp3
          have HVM3 := Hid.mk hvm3
          clear hC hM3 hkp3 hvm3 hkm3 hkl c4
          go_upto_region 12 with fail
          obtain ⟨ws, hws⟩ : ∃ x, x = wr.alloc (.cells #[.slice none 0 0, .float .f64 0, .bool false] 73) := ⟨_, rfl⟩
          rw [← hws]
          have hbs : Below wr.heap.size wr ws := by rw [hws]; exact below_al _ _
          have hs0 : ws.heap[wr.heap.size]? = some (.cells #[.slice none 0 0, .float .f64 0, .bool false] 73 (0, 0)) := by rw [hws]; exact heap_alloc_new _ _
          have hMs := HM3.out.below hbs
          have hks : Keep K0 w ws := HKP3.out.trans (Keep.of_below HM3.out.kl hbs)
          obtain ⟨B, hB⟩ : ∃ x, wr.heap.size = x := ⟨_, rfl⟩
          rw [hB] at hs0 ⊢
          have hnB : ∀ b, KS K0 g vd' vl' vt vs b → b ≠ B := fun b hb e => by have := HM3.out.kall b hb; omega
          have c4 : ws.cell? ⟨g, 4, none⟩ = some (.slice a5 km3 d5) := by rw [← HVM3.out]; exact cell_heap hMs.hg rfl
          have HMS := Hid.mk hMs
          have HKS := Hid.mk hks
          have HS0 := Hid.mk hs0
          have HNB := Hid.mk hnB
          clear hws hbs hs0 hMs hks hB hnB
          go_wp2_with fail
          go_loopw [13, 100] (fun _ i wr => ∃ (t : Nat) (v : Value) (x : Nat) (p : Bool) (m' : Nat), t ≤ km3 ∧ i = .int .i64 (t : Int) ∧ m' ≤ t ∧ wr.heap[B]? = some (.cells #[v, .float .f64 x, .bool p] 73 (0, 0)) ∧ FRow wr (fun b => KS K0 g vd' vl' vt vs b ∨ b = B) v m' ∧ GM wr K0 base g n (n + 1) (fun i => (s + 3) * low (i + 1)) (upd D n d) (upd L n m) T tot fst vd' vl' vt vs vm3 pv pm km3 ∧ Keep K0 w wr) (fun _ i _ => km3 - (intOf i).toNat)
          case atStart => exact ⟨0, _, 0, false, 0, by omega, rfl, Nat.le_refl _, HS0.out, .inl ⟨rfl, rfl⟩, HMS.out, HKS.out⟩
          case round =>
            clear c4
            obtain ⟨t, v, x, p, m', ht, rfl, hm', hsb, hfr, hM4, hkp4⟩ := hrel
            by_cases htk : t < km3
            · --[[4
              have hrm := hM4.rm
              rw [HVM3.out] at hrm
              obtain ⟨b5, cap5, y, h1, h2, -⟩ := hrm.cell htk
              cases h1
              have t0 : (0 : Int) ≤ (t : Int) := by omega
              have t1 : (t : Int) < (km3 : Int) := by omega
              have hbd : km3 ≤ 20000000 := by
                have h3 := HKM.out
                have h4 : (s + 4) * (l - 1) ≤ 4100 * 4096 := Nat.mul_le_mul (by omega) (by omega)
                omega
              have HSB := Hid.mk hsb
              have HFR := Hid.mk hfr
              have HM4 := Hid.mk hM4
              have HKP4 := Hid.mk hkp4
              clear hsb hfr hM4 hkp4 hrm
              go_wp2_with fail
              refine (add_any (fun b => KS K0 g vd' vl' vt vs b ∨ b = B) B 0 73 _ v x m' y p _ (by decide) HSB.out (.inr rfl) rfl rfl rfl HFR.out (fun b hb => by rcases hb with hb | rfl; exact HM4.out.kall b hb; exact lt_of_heap HSB.out) (by omega)).mono ?_
              rintro e wv ⟨rfl, v', x', p', m'', hm'', hh', hfr', hkc⟩
              have hMv : GM wv K0 base g n (n + 1) (fun i => (s + 3) * low (i + 1)) (upd D n d) (upd L n m) T tot fst vd' vl' vt vs vm3 pv pm km3 := HM4.out.chg hkc (fun b hb => ⟨.inl hb, HNB.out b hb⟩) (fun b hb hn => by
                rcases hb.1 with h | h
                · exact absurd h hn
                · exact absurd h hb.2)
              have HFIN : Hid (wv.heap[B]? = some (.cells #[v', .float .f64 x', .bool p'] 73 (0, 0)) ∧ FRow wv (fun b => KS K0 g vd' vl' vt vs b ∨ b = B) v' m'' ∧ GM wv K0 base g n (n + 1) (fun i => (s + 3) * low (i + 1)) (upd D n d) (upd L n m) T tot fst vd' vl' vt vs vm3 pv pm km3 ∧ Keep K0 w wv) := ⟨hh', hfr', hMv, HKP4.out.trans (Keep.of_k hkc (fun b hb => ⟨.inl (.inl hb), HNB.out b (.inl hb)⟩))⟩
              clear hMv hh' hfr' hkc
              go_wp2_with fail
              go_roundw
              case rel => exact ⟨t + 1, v', x', p', m'', by omega, by go_num, by omega, HFIN.out.1, HFIN.out.2.1, HFIN.out.2.2.1, HFIN.out.2.2.2⟩
              case measure => simp [intOf]; omega
              --]]4
            · obtain rfl : t = km3 := by omega
              have hvt3 := HVT.out
              subst hvt3
              obtain ⟨a7, d7, hv7⟩ := hfr.len
              subst hv7
              obtain ⟨xs8, hx8, -⟩ := hM4.rs
              obtain ⟨a8, d8, hv8⟩ := own_form hx8
              subst hv8
              have hG4 := hM4.gr (FRs (n + 1) (upd pv n (.slice a7 m' d7)) (upd pm n m') vm3 t) (fun u k hu => by
                rcases hu with ⟨i, hi, rfl, rfl⟩ | ⟨rfl, rfl⟩
                · by_cases hin : i = n
                  · subst hin
                    rw [upd_at, upd_at]
                    exact hfr.rekey (fun b _ hb => .inl hb)
                  · rw [upd_ne _ _ hin, upd_ne _ _ hin]
                    exact (hM4.rp i (by omega)).1
                · exact hM4.rm)
              have HSB := Hid.mk hsb
              have HG4 := Hid.mk hG4
              have HKP4 := Hid.mk hkp4
              have HM' := Hid.mk hm'
              have HPP := Hid.mk hM4.rp
              have c2 := cell_heap (o := 2) hG4.hg rfl
              have c3 := cell_heap (o := 3) hG4.hg rfl
              have c10 := cell_heap (o := 0) hsb rfl
              have c11 := cell_heap (o := 1) hsb rfl
              have c12 := cell_heap (o := 2) hsb rfl
              clear hsb hfr hM4 hkp4 hx8 hG4 hm'
              go_upto_region 17 with fail
              go_cut [] from 107 to 126 (fun wx => Add2 w K0 base g n m C d D L T vd' vl' vm3 pv pm t (.slice a7 m' d7) m' tot fst wx)
              case first =>
                --[[5
                refine wp_region_ins3 [0, 1, 2, 3, 4, 6, 9, 10, 11] [5, 12, 13] 14 [7, 8] [15, 16, 17, 18, 19, 20, 21] [0, 1, 2, 3, 4, 5, 6, 7, 8, 9, 10, 11, 12, 13, 14] (fun w' => w'.cell? ⟨g, 2, none⟩ = some (.slice a2 n d2) ∧ w'.cell? ⟨g, 3, none⟩ = some (.slice a8 n d8) ∧ w'.cell? ⟨B, 0, none⟩ = some (.slice a7 m' d7) ∧ w'.cell? ⟨B, 1, none⟩ = some (.float .f64 x) ∧ w'.cell? ⟨B, 2, none⟩ = some (.bool p)) (by kernel_rfl) (by kernel_rfl) (fun _ _ d _ _ h => by cases d <;> exact h) ⟨c2, c3, c10, c11, c12⟩ ?_
                iterate 9 (refine wpHead_cons (v := ?_) rfl (by rfl) ?_ ?_; rotate_left 1; (focus (rintro w0 -; go_simp; first | done | with_reducible rfl)); simp only [Act.put, List.setIfInBounds_toArray, List.set_cons_zero, List.set_cons_succ])
                refine wpHead_nil ?_
                iterate 3 (refine wpHead_cons (v := ?_) rfl (by rfl) ?_ ?_; rotate_left 1; (focus (rintro w0 ⟨s1, s2, s3, s4, s5⟩; go_simp; first | done | with_reducible rfl)); simp only [Act.put, List.setIfInBounds_toArray, List.set_cons_zero, List.set_cons_succ])
                refine wpHead_nil ?_
                have hdr : Below wr.heap.size wr wr.drew := ⟨rfl, rfl, rfl, Nat.le_refl _, fun _ _ => rfl⟩
                have hG0 := HG4.out.below hdr
                have hk0 : Keep K0 w wr.drew := HKP4.out.trans (Keep.of_below HG4.out.kl hdr)
                have hsz := heap_below hdr HSB.out
                obtain ⟨wz, hwz⟩ : ∃ q', q' = wr.drew := ⟨_, rfl⟩
                rw [← hwz] at hG0 hk0 hsz ⊢
                have HG0 := Hid.mk hG0
                have HK0 := Hid.mk hk0
                have HSZ := Hid.mk hsz
                clear hwz hG0 hk0 hsz hdr c2 c3 c10 c11 c12
                have cS : ∀ {w1 : World} {e1 e2 e3 e4 : Nat} {D1 : Nat → Int} {L1 T1 : Nat → Nat} {x1 x2 x3 x4 : Value} {p1 : Nat → Value} {F1 : Value → Nat → Prop}, GR w1 K0 base g e1 e2 e3 e4 D1 L1 T1 x1 x2 x3 x4 p1 #[vd', vl', .slice a2 n d2, .slice a8 n d8, vm3, .int .i64 tot, .int .i64 fst] F1 → w1.heap[B]? = some (.cells #[.slice a7 m' d7, .float .f64 x, .bool p] 73 (0, 0)) → w1.cell? ⟨g, 2, none⟩ = some (.slice a2 n d2) ∧ w1.cell? ⟨g, 3, none⟩ = some (.slice a8 n d8) ∧ w1.cell? ⟨B, 0, none⟩ = some (.slice a7 m' d7) ∧ w1.cell? ⟨B, 1, none⟩ = some (.float .f64 x) ∧ w1.cell? ⟨B, 2, none⟩ = some (.bool p) := fun h hb => ⟨cell_heap h.hg rfl, cell_heap h.hg rfl, cell_heap hb rfl, cell_heap hb rfl, cell_heap hb rfl⟩
                have HCS : Hid _ := @cS
                clear cS
                refine wpIns_keep ?_ rfl (by rfl) (fun KK hKK => ?_)
                · -- 14 7 8 15
                  refine wpTail_keep rfl (by rfl) (fun KK hKK => ?_)
                  go_simp
                  have hGB := HG0.out.below (below_al wz (.cells #[.slice a7 m' d7, .float .f64 x, .bool p] 73))
                  have hB : (wz.alloc (.cells #[.slice a7 m' d7, .float .f64 x, .bool p] 73)).heap[wz.heap.size]? = some (.cells #[.slice a7 m' d7, .float .f64 x, .bool p] 73 (0, 0)) := heap_alloc_new _ _
                  have hS1 := heap_old HSZ.out (.cells #[.slice a7 m' d7, .float .f64 x, .bool p] 73)
                  obtain ⟨wb, hwb⟩ : ∃ q', q' = wz.alloc (.cells #[.slice a7 m' d7, .float .f64 x, .bool p] 73) := ⟨_, rfl⟩
                  have hkB : Keep K0 wz wb := by rw [hwb]; exact Keep.of_below HG0.out.kl (below_al _ _)
                  rw [← hwb] at hGB hB hS1 ⊢
                  refine hKK.out _ _ (HCS.out hGB hS1) ?_
                  clear hKK KK hwb
                  refine wpTail_keep rfl (by rfl) (fun KK hKK => ?_)
                  go_simp
                  have hGA := hGB.below (below_al wb (.cells #[.int .i64 (C : Int)] 3))
                  have hA : (wb.alloc (.cells #[.int .i64 (C : Int)] 3)).heap[wb.heap.size]? = some (.cells #[.int .i64 (C : Int)] 3 (0, 0)) := heap_alloc_new _ _
                  have hB2 := heap_old hB (.cells #[.int .i64 (C : Int)] 3)
                  have hS2 := heap_old hS1 (.cells #[.int .i64 (C : Int)] 3)
                  obtain ⟨wa, hwa⟩ : ∃ q', q' = wb.alloc (.cells #[.int .i64 (C : Int)] 3) := ⟨_, rfl⟩
                  have hkA : Keep K0 wz wa := hkB.trans (by rw [hwa]; exact Keep.of_below hGB.kl (below_al _ _))
                  rw [← hwa] at hGA hA hB2 hS2 ⊢
                  refine hKK.out _ _ (HCS.out hGA hS2) ?_
                  clear hKK KK hwa hGB hB hkB hS1
                  obtain ⟨av1, cv1, w3, hrun1, hR3, hB3'⟩ := stepT (m := C) hGA (by omega) hA
                  have hB3 := hB3' _ _ hB2
                  have hS3 := hB3' _ _ hS2
                  refine wpTail_keep rfl (by rfl) (fun KK hKK => ?_)
                  refine Go.Lib.wp_append_run _ _ _ 37 37 rfl _ _ rfl rfl _ w3 hrun1 ?_
                  refine hKK.out _ _ (HCS.out hR3.1 hS3) ?_
                  clear hKK KK hrun1 hGA hA hB2 hB3' hS2 hS3
                  obtain ⟨av2, cv2, w4, hrun2, hR4⟩ := stepS hR3.1 (by omega) hB3
                  have hkk := ((HK0.out.trans hkA).trans hR3.2).trans hR4.2
                  have c0' := cell_heap (o := 2) hR4.1.hg rfl
                  have q0 := frozen_heap (o := 2) hR4.1.hg
                  have c1' := cell_heap (o := 3) hR4.1.hg rfl
                  have q1 := frozen_heap (o := 3) hR4.1.hg
                  have HFIN := Hid.mk (add2_end hR4.1 hkk)
                  have HRUN2 := Hid.mk hrun2
                  clear hR4 hrun2 hkk hR3 hkA hB3
                  refine wpTail_list [15, 16, 17, 18, 19, 20, 21] _ _ rfl ?_
                  simp only [List.filterMap_cons, List.filterMap_nil, List.getElem?_cons_succ, List.getElem?_cons_zero]
                  refine Go.Lib.wpList_append_run _ rfl _ _ 50 50 rfl _ _ rfl rfl (.slice av2 (n + 1) cv2) w4 HRUN2.out ?_
                  go_wp2_with fail
                  go_meet
                  exact HFIN.out
                · go_simp
                  have hGA := HG0.out.below (below_al wz (.cells #[.int .i64 (C : Int)] 3))
                  have hA : (wz.alloc (.cells #[.int .i64 (C : Int)] 3)).heap[wz.heap.size]? = some (.cells #[.int .i64 (C : Int)] 3 (0, 0)) := heap_alloc_new _ _
                  have hS1 := heap_old HSZ.out (.cells #[.int .i64 (C : Int)] 3)
                  obtain ⟨wa, hwa⟩ : ∃ q', q' = wz.alloc (.cells #[.int .i64 (C : Int)] 3) := ⟨_, rfl⟩
                  have hkA0 : Keep K0 wz wa := by rw [hwa]; exact Keep.of_below HG0.out.kl (below_al _ _)
                  rw [← hwa] at hGA hA hS1 ⊢
                  refine hKK.out _ _ (HCS.out hGA hS1) ?_
                  clear hKK KK hwa
                  refine wpIns_keep ?_ rfl (by rfl) (fun KK hKK => ?_)
                  · -- 7 14 8 15
                    refine wpTail_keep rfl (by rfl) (fun KK hKK => ?_)
                    go_simp
                    have hGB := hGA.below (below_al wa (.cells #[.slice a7 m' d7, .float .f64 x, .bool p] 73))
                    have hB : (wa.alloc (.cells #[.slice a7 m' d7, .float .f64 x, .bool p] 73)).heap[wa.heap.size]? = some (.cells #[.slice a7 m' d7, .float .f64 x, .bool p] 73 (0, 0)) := heap_alloc_new _ _
                    have hA2 := heap_old hA (.cells #[.slice a7 m' d7, .float .f64 x, .bool p] 73)
                    have hS2 := heap_old hS1 (.cells #[.slice a7 m' d7, .float .f64 x, .bool p] 73)
                    obtain ⟨wb, hwb⟩ : ∃ q', q' = wa.alloc (.cells #[.slice a7 m' d7, .float .f64 x, .bool p] 73) := ⟨_, rfl⟩
                    have hkA : Keep K0 wz wb := hkA0.trans (by rw [hwb]; exact Keep.of_below hGA.kl (below_al _ _))
                    rw [← hwb] at hGB hB hA2 hS2 ⊢
                    refine hKK.out _ _ (HCS.out hGB hS2) ?_
                    clear hKK KK hwb hkA0 hGA hA hS1
                    obtain ⟨av1, cv1, w3, hrun1, hR3, hB3'⟩ := stepT (m := C) hGB (by omega) hA2
                    have hB3 := hB3' _ _ hB
                    have hS3 := hB3' _ _ hS2
                    refine wpTail_keep rfl (by rfl) (fun KK hKK => ?_)
                    refine Go.Lib.wp_append_run _ _ _ 37 37 rfl _ _ rfl rfl _ w3 hrun1 ?_
                    refine hKK.out _ _ (HCS.out hR3.1 hS3) ?_
                    clear hKK KK hrun1 hGB hB hA2 hB3' hS2 hS3
                    obtain ⟨av2, cv2, w4, hrun2, hR4⟩ := stepS hR3.1 (by omega) hB3
                    have hkk := ((HK0.out.trans hkA).trans hR3.2).trans hR4.2
                    have c0' := cell_heap (o := 2) hR4.1.hg rfl
                    have q0 := frozen_heap (o := 2) hR4.1.hg
                    have c1' := cell_heap (o := 3) hR4.1.hg rfl
                    have q1 := frozen_heap (o := 3) hR4.1.hg
                    have HFIN := Hid.mk (add2_end hR4.1 hkk)
                    have HRUN2 := Hid.mk hrun2
                    clear hR4 hrun2 hkk hR3 hkA hB3
                    refine wpTail_list [15, 16, 17, 18, 19, 20, 21] _ _ rfl ?_
                    simp only [List.filterMap_cons, List.filterMap_nil, List.getElem?_cons_succ, List.getElem?_cons_zero]
                    refine Go.Lib.wpList_append_run _ rfl _ _ 50 50 rfl _ _ rfl rfl (.slice av2 (n + 1) cv2) w4 HRUN2.out ?_
                    go_wp2_with fail
                    go_meet
                    exact HFIN.out
                  · -- 7 8 14 15
                    obtain ⟨av1, cv1, w2, hrun1, hR2, hB3'⟩ := stepT (m := C) hGA (by omega) hA
                    have hS2 := hB3' _ _ hS1
                    refine Go.Lib.wp_append_run _ _ _ 37 37 rfl _ _ rfl rfl _ w2 hrun1 ?_
                    refine hKK.out _ _ (HCS.out hR2.1 hS2) ?_
                    clear hKK KK hrun1 hGA hA hB3' hS1
                    refine wpIns_nil ?_
                    refine wpTail_keep rfl (by rfl) (fun KK hKK => ?_)
                    go_simp
                    have hG3 := hR2.1.below (below_al w2 (.cells #[.slice a7 m' d7, .float .f64 x, .bool p] 73))
                    have hB3 : (w2.alloc (.cells #[.slice a7 m' d7, .float .f64 x, .bool p] 73)).heap[w2.heap.size]? = some (.cells #[.slice a7 m' d7, .float .f64 x, .bool p] 73 (0, 0)) := heap_alloc_new _ _
                    have hS3 := heap_old hS2 (.cells #[.slice a7 m' d7, .float .f64 x, .bool p] 73)
                    obtain ⟨w3, hw3⟩ : ∃ q', q' = w2.alloc (.cells #[.slice a7 m' d7, .float .f64 x, .bool p] 73) := ⟨_, rfl⟩
                    have hk3 : Keep K0 w2 w3 := by rw [hw3]; exact Keep.of_below hR2.1.kl (below_al _ _)
                    rw [← hw3] at hG3 hB3 hS3 ⊢
                    refine hKK.out _ _ (HCS.out hG3 hS3) ?_
                    clear hKK KK hw3
                    have hR3 := And.intro hG3 hk3
                    have hkA := hkA0.trans hR2.2
                    clear hG3 hk3 hkA0 hR2 hS2 hS3
                    obtain ⟨av2, cv2, w4, hrun2, hR4⟩ := stepS hR3.1 (by omega) hB3
                    have hkk := ((HK0.out.trans hkA).trans hR3.2).trans hR4.2
                    have c0' := cell_heap (o := 2) hR4.1.hg rfl
                    have q0 := frozen_heap (o := 2) hR4.1.hg
                    have c1' := cell_heap (o := 3) hR4.1.hg rfl
                    have q1 := frozen_heap (o := 3) hR4.1.hg
                    have HFIN := Hid.mk (add2_end hR4.1 hkk)
                    have HRUN2 := Hid.mk hrun2
                    clear hR4 hrun2 hkk hR3 hkA hB3
                    refine wpTail_list [15, 16, 17, 18, 19, 20, 21] _ _ rfl ?_
                    simp only [List.filterMap_cons, List.filterMap_nil, List.getElem?_cons_succ, List.getElem?_cons_zero]
                    refine Go.Lib.wpList_append_run _ rfl _ _ 50 50 rfl _ _ rfl rfl (.slice av2 (n + 1) cv2) w4 HRUN2.out ?_
                    go_wp2_with fail
                    go_meet
                    exact HFIN.out
                --]]5
              case rest =>
                obtain ⟨vt', vs', hR, hkp⟩ := hcut
                have c5 := cell_heap (o := 5) hR.hg rfl
                have q5 := frozen_heap (o := 5) hR.hg
                have htb := HTOT.out
                have hts := sm_small HLL.out hn 0 n (Nat.le_refl _)
                rw [← htb] at hts
                have HRR := Hid.mk hR
                have HKK := Hid.mk hkp
                clear hR hkp htb
                go_wp2_with fail
                go_ret
                have hG := HRR.out.setg 5 (.int .i64 ((tot : Int) + (m : Int)))
                have hnode : ∀ i, i < n + 1 → upd T n C i = node (upd L n m) (i + 1) := fun i hi => by
                  have hcg : ∀ a b, b ≤ n → sm (upd L n m) a b = sm L a b := fun a b hb => sm_congr (fun j _ h2 => upd_ne _ _ (by omega))
                  by_cases hin : i = n
                  · subst hin
                    rw [upd_at, HCC.out]
                    unfold node
                    rw [HLW.out, sm_succ _ _ _ (by omega), hcg _ _ (Nat.le_refl _), upd_at]
                    omega
                  · rw [upd_ne _ _ hin, HTT.out]
                    unfold node
                    rw [hcg _ _ (by omega)]
                have htot2 : sm (upd L n m) 0 (n + 1) = tot + m := by
                  rw [sm_succ _ _ _ (by omega), upd_at, HTOT.out]
                  congr 1
                  exact sm_congr (fun j _ h2 => upd_ne _ _ (by omega))
                refine ⟨rfl, vd', vl', vt', vs', vm3, upd pv n (.slice a7 m' d7), upd pm n m', ?_, HKK.out.trans (Keep.set HRR.out.ng _)⟩
                exact
                  { hg := by rw [htot2]; exact hG.hg
                    rd := hG.rd, rl := hG.rl
                    rt := by have := hG.rt; rw [nl_congr hnode] at this; exact this
                    rs := hG.rs
                    rp := fun i hi => ⟨hG.rf _ _ (.inl ⟨i, hi, rfl, rfl⟩), by
                      by_cases hin : i = n
                      · subst hin
                        rw [upd_at, HLW.out]
                        have h1 := HM'.out
                        have h2 := HKM.out
                        have h3 : (s + 4) * l = (s + 4) * (l - 1) + (s + 4) := by
                          rw [show l = (l - 1) + 1 by omega, Nat.mul_add, Nat.mul_one, Nat.add_sub_cancel]
                        show m' ≤ (s + 1 + 3) * l
                        rw [show s + 1 + 3 = s + 4 by omega]
                        omega
                      · rw [upd_ne _ _ hin]
                        refine Nat.le_trans (HPM.out i (by omega)) (Nat.mul_le_mul_right _ (by omega))⟩
                    rm := ⟨t, hG.rf _ _ (.inr ⟨rfl, rfl⟩)⟩
                    lt := hG.lt, nk := hG.nk, bg := hG.bg, kl := hG.kl, k0 := hG.k0, kb := hG.kb }

/-- add, at the state between two calls. -/
theorem addc_any {w : World} {K0 : Nat → Prop} {base g n m s : Nat} {d : Int} {D : Nat → Int} {L : Nat → Nat} {fst : Nat} {vd vl vt vs vm : Value} {pv : Nat → Value} {pm : Nat → Nat} (hn : n ≤ 4096) (hs : s ≤ 4096) (hm : m ≤ 5) (hL : ∀ i, i < n → L i ≤ 5) (htb : Tab w) (hK2 : K0 2)
    (h : GS w K0 base g n s D L fst vd vl vt vs vm pv pm) :
    Calls Ybad.prog 10 #[.pointer (some ⟨g, 0, none⟩), .float .f64 (fi d), .int .i64 m] w fun e w' => e = .returned (.int .i64 (n : Int)) ∧ Ended K0 base g (n + 1) (s + 1) (upd D n d) (upd L n m) fst w w' := by
  obtain ⟨km, hkm⟩ := h.rm
  refine addg_any (T := fun i => node L (i + 1)) (km := km) (tot := sm L 0 n) hn hs hm hL htb hK2 (fun i hi => (h.rp i hi).2) rfl rfl
    { hg := h.hg, rd := h.rd, rl := h.rl, rt := h.rt, rs := h.rs, rf := fun v k hv => ?_, lt := h.lt, nk := h.nk, bg := h.bg, kl := h.kl, k0 := h.k0, kb := h.kb }
  rcases hv with ⟨i, hi, rfl, rfl⟩ | ⟨rfl, rfl⟩
  · exact (h.rp i hi).1
  · exact hkm
end Go.Proofs.YbulkdzeiDoor.C
