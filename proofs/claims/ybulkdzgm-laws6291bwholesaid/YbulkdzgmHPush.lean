/-
  THE WALK of heap.Push over the queue.
-/
import Derived.Test.YbulkdzgmPush
namespace Go.Proofs.Ybulkdzgm
open Go Go.RowKit

theorem Chg.new {p : Nat → Prop} {a b c : World} {g : Nat} (h1 : Chg p a b) (h2 : Chg (· = g) b c) (hg : p g ∨ a.heap.size ≤ g) : Chg p a c :=
  ⟨Nat.le_trans h1.size h2.size, fun i hi hp => (h2.block i (Nat.lt_of_lt_of_le hi h1.size) (fun e => by
      rcases hg with h | h
      · exact hp (e ▸ h)
      · omega)).trans (h1.block i hi hp), fun B hB hp => (h1.below B hB hp).trans (h2.below B (Nat.le_trans hB h1.size) (fun b hb => by
      subst hb
      rcases hg with h | h
      · exact hp _ h
      · omega))⟩

/-- What heap.Push leaves. -/
def HPushed (D o m base : Nat) (X : Nat → Item) (PB f : Nat → Nat) (x : Nat) (v : Value) (Dc : Array Value) (w w' : World) : Prop :=
  ∃ v' f', w'.heap[D]? = some (.cells (Dc.setIfInBounds o v') 38 (0, 0)) ∧ w'.ownsRow base 41 1 v' (m + 1) (ptrs PB f' (m + 1)) ∧ (v'.ownBlock = v.ownBlock ∨ ∃ k, v'.ownBlock = some k ∧ w.heap.size ≤ k) ∧ Chg (fun b => b = D ∨ v.ownBlock = some b) w w' ∧
    Perm (m + 1) (ext f m x) f' ∧ (Heap X f m → Heap X f' (m + 1))

theorem Heap.ext {X : Nat → Item} {f : Nat → Nat} {m x : Nat} (h : Heap X f m) : UpOK X (ext f m x) (m + 1) m := by
  refine ⟨fun k h0 hk hkm => ?_, fun k h0 hk hp h0m => by have := par_lt h0; omega⟩
  have := par_lt h0
  unfold Go.Proofs.Ybulkdzgm.ext
  rw [if_neg hkm, if_neg (by omega)]
  exact h k h0 (by omega)

set_option maxRecDepth 100000 in
set_option maxHeartbeats 1000000 in
theorem hpush_any (D o m base x : Nat) (X : Nat → Item) (PB f : Nat → Nat) (v : Value) (Dc : Array Value) (w : World) (hm : m ≤ 900) (hD : w.heap[D]? = some (.cells Dc 38 (0, 0))) (hv : Dc[o]? = some v) (hown : w.ownsRow base 41 1 v m (ptrs PB f m)) (hbase : base ≤ w.heap.size)
    (hitem : ∀ k, k < m + 1 → w.heap[PB (ext f m x k)]? = some (.cells ((X (ext f m x k)).cells (ext f m x k)) 49 (0, 0))) :
    Calls Yba.prog 17 #[.iface 63 (.pointer (some ⟨D, o, none⟩)), .iface 41 (.pointer (some ⟨PB x, 0, none⟩))] w fun e w' => e = .returned (.tuple #[]) ∧ HPushed D o m base X PB f x v Dc w w' := by
  have hmth := fun w => run_method_ptr w path_push (.pointer (some ⟨D, o, none⟩))
  go_enter Yba.func17, Yba.ntmps17
  go_wp2_with fail
  refine (push_any D o m base x PB f v Dc w (by omega) hD hv hown hbase).mono ?_
  rintro e w1 ⟨rfl, v1, hD1, hO1, hat1, hc1⟩
  have hi1 : ∀ k, k < m + 1 → w1.heap[PB (ext f m x k)]? = some (.cells ((X (ext f m x k)).cells (ext f m x k)) 49 (0, 0)) := fun k hk => by
    have h1 := hitem k hk
    rw [hc1.block _ (lt_of_heap h1) (fun h => by
      rcases h with h | h
      · rw [h, hD] at h1; simp at h1
      · exact own_ne hown h1 (by decide) h)]
    exact h1
  have hos : o < Dc.size := (Array.getElem?_eq_some_iff.1 hv).1
  have hcell : w1.cell? ⟨D, o, none⟩ = some v1 := cell_heap hD1 (by simp [hos])
  obtain ⟨g, cap, rfl, hbg, hq⟩ := qat_of (X := X) hO1 (by omega) hcell hD1 hi1
  have HQ := Hid.mk hq
  have HD1 := Hid.mk hD1
  have HC1 := Hid.mk hc1
  have HAT := Hid.mk hat1
  clear hmth hD hv hown hitem hD1 hO1 hat1 hc1 hi1 hq
  have hmth := run_method_val w1 path_len D o (some ⟨g, 0, none⟩) (m + 1) cap HQ.out.cell
  go_wp2_with fail
  refine (len_any _ _ _ _).mono ?_
  rintro e w2 ⟨rfl, rfl⟩
  go_wp2_with fail
  refine (up_any D o g (m + 1) cap m X PB (ext f m x) _ (by omega) (by omega) HQ.out).mono ?_
  rintro e w3 ⟨rfl, f', hq3, hp3, hh3, -, hc3⟩
  have hgD := HQ.out.gD
  have hD3 := (hc3.block D (lt_of_heap HD1.out) hgD).trans HD1.out
  have HF : Hid (HPushed D o m base X PB f x v Dc w w3) := ⟨_, f', hD3, own_of hq3 hbg, HAT.out, HC1.out.new hc3 (by
    rcases HAT.out with h | ⟨k, h1, h2⟩
    · exact .inl (.inr (by rw [← h]; rfl))
    · simp [Value.ownBlock] at h1; subst h1; exact .inr h2), hp3, fun h => hh3 (m + 1) (by omega) (by omega) h.ext⟩
  clear hq3 hp3 hh3 hc3 hD3 HQ HD1 HC1 HAT hmth
  go_wp2_with fail
  go_end0
  exact ⟨rfl, HF.out⟩

/-- What Pop leaves: one place less; the last pointer. -/
def Popped (D o m base : Nat) (PB f : Nat → Nat) (g : Nat) (Dc : Array Value) (w : World) (e : Ending) (w' : World) : Prop :=
  ∃ cap, e = .returned (.iface 41 (.pointer (some ⟨PB (f m), 0, none⟩))) ∧ w'.heap[D]? = some (.cells (Dc.setIfInBounds o (.slice (some ⟨g, 0, none⟩) m cap)) 38 (0, 0)) ∧ w'.ownsRow base 41 1 (.slice (some ⟨g, 0, none⟩) m cap) m (ptrs PB f m) ∧ Chg (fun b => b = D ∨ b = g) w w'

set_option maxRecDepth 100000 in
set_option maxHeartbeats 1000000 in
theorem pop_any (D o m base g cap : Nat) (X : Nat → Item) (PB f : Nat → Nat) (Dc : Array Value) (w : World) (hm : m ≤ 1000) (hD : w.heap[D]? = some (.cells Dc 38 (0, 0))) (hQ : QAt w D o g (m + 1) cap X PB f) (hb : base ≤ g) :
    Calls Yba.prog 55 #[.pointer (some ⟨D, o, none⟩)] w fun e w' => Popped D o m base PB f g Dc w e w' := by
  have c1 := hQ.cell
  have c2 := hQ.at (show m < m + 1 by omega)
  obtain ⟨arr, ha1, ha2, ha3⟩ := hQ.row
  have hle := hQ.le
  have htop := hQ.top
  have c3 := frozen_heap (o := m) ha1
  have hgD := hQ.gD
  have hg1 := heap_setCell_same (o := m) ha1 (.pointer none)
  have hD1 := (Below.heap_setCell w ⟨g, m, none⟩ (.pointer none) D hgD).trans hD
  have c4 : (w.setCell ⟨g, m, none⟩ (.pointer none)).cell? ⟨D, o, none⟩ = some (.slice (some ⟨g, 0, none⟩) (m + 1) cap) := by
    rw [← c1]; simp [World.cell?, Below.heap_setCell w ⟨g, m, none⟩ (.pointer none) D hgD]
  have c5 := frozen_heap (o := o) hD1
  have hwm : IntKind.i64.wrap (m : Int) = (m : Int) := by rw [IntKind.wrap_i64]; omega
  have m0 : (0 : Int) ≤ (m : Int) := by omega
  have m1 : (m : Int) < (m : Int) + 1 := by omega
  have m2 : m ≤ cap := by omega
  have m3 : (m : Int) ≤ (cap : Int) := by omega
  have HD1 := Hid.mk hD1
  have HG1 := Hid.mk hg1
  have HF : Hid (∀ w', w' = (w.setCell ⟨g, m, none⟩ (.pointer none)).setCell ⟨D, o, none⟩ (.slice (some ⟨g, 0, none⟩) m cap) → Popped D o m base PB f g Dc w (.returned (.iface 41 (.pointer (some ⟨PB (f m), 0, none⟩)))) w') := fun w' hw' => by
    subst hw'
    refine ⟨cap, rfl, heap_setCell_same hD1 _, ⟨by rw [ptrs_length]; omega, .inr ⟨g, cap, _, rfl, hb, (Below.heap_setCell _ _ _ _ (fun e => hgD e.symm)).trans hg1, m2, htop, by simp; omega, ?_⟩⟩, ⟨by simp [World.setCell], fun b _ hp => ?_, fun B _ hp => ?_⟩⟩
    · apply List.ext_getElem?
      intro k
      rw [List.getElem?_take]
      by_cases hk : k < m
      · rw [if_pos (by omega), ptrs_get PB f hk]
        have := ha3 k (by omega)
        simp only [Array.getElem?_toList]
        rw [Array.getElem?_setIfInBounds_ne (by omega)]
        exact this
      · rw [if_neg (by omega), List.getElem?_eq_none (by rw [ptrs_length]; omega)]
    · exact (Below.heap_setCell _ _ _ _ (fun e => hp (.inl e))).trans (Below.heap_setCell _ _ _ _ (fun e => hp (.inr e)))
    · exact ((Below.refl _ _).setCell (hp g (.inr rfl)) _).setCell (hp D (.inl rfl)) _
  clear hD hQ ha1 ha2 ha3 hg1 hD1
  go_enter Yba.func55, Yba.ntmps55
  go_wp2_with fail
  go_ret
  exact HF.out _ rfl

/-- What heap.Remove leaves. -/
def Removed (D o m base i : Nat) (X : Nat → Item) (PB f : Nat → Nat) (g : Nat) (Dc : Array Value) (w : World) (e : Ending) (w' : World) : Prop :=
  ∃ (F : Nat → Nat) (cap : Nat), e = .returned (.iface 41 (.pointer (some ⟨PB (f i), 0, none⟩))) ∧ F m = f i ∧ Perm (m + 1) f F ∧ (Heap X f (m + 1) → Heap X F m) ∧ w'.heap[D]? = some (.cells (Dc.setIfInBounds o (.slice (some ⟨g, 0, none⟩) m cap)) 38 (0, 0)) ∧
    w'.ownsRow base 41 1 (.slice (some ⟨g, 0, none⟩) m cap) m (ptrs PB F m) ∧ Chg (fun b => b = D ∨ b = g) w w'

theorem removed_of {D o m base i g : Nat} {X : Nat → Item} {PB f F : Nat → Nat} {Dc : Array Value} {w w1 w' : World} {e : Ending} (hc : Chg (· = g) w w1) (hF : F m = f i) (hp : Perm (m + 1) f F) (hh : Heap X f (m + 1) → Heap X F m)
    (h : Popped D o m base PB F g Dc w1 e w') : Removed D o m base i X PB f g Dc w e w' := by
  obtain ⟨cap, rfl, h1, h2, h3⟩ := h
  exact ⟨F, cap, by rw [hF], hF, hp, hh, h1, h2, (hc.mono (fun b hb => .inr hb)).trans h3⟩

set_option maxRecDepth 100000 in
set_option maxHeartbeats 1000000 in
theorem remove_any (D o m base g cap i : Nat) (X : Nat → Item) (PB f : Nat → Nat) (Dc : Array Value) (w : World) (hm : m ≤ 900) (hi : i < m + 1) (hD : w.heap[D]? = some (.cells Dc 38 (0, 0))) (hQ : QAt w D o g (m + 1) cap X PB f) (hb : base ≤ g) :
    Calls Yba.prog 22 #[.iface 63 (.pointer (some ⟨D, o, none⟩)), .int .i64 i] w fun e w' => Removed D o m base i X PB f g Dc w e w' := by
  have hgD := hQ.gD
  have HQ := Hid.mk hQ
  have HD := Hid.mk hD
  have hmth := run_method_val w path_len D o (some ⟨g, 0, none⟩) (m + 1) cap hQ.cell
  have hmpop := fun w => run_method_ptr w path_pop (.pointer (some ⟨D, o, none⟩))
  have hwm : IntKind.i64.wrap (m : Int) = (m : Int) := by rw [IntKind.wrap_i64]; omega
  clear hQ hD
  go_enter Yba.func22, Yba.ntmps22
  go_wp2_with fail
  refine (len_any _ _ _ _).mono ?_
  rintro e w1 ⟨rfl, rfl⟩
  by_cases him : m = i
  · have hne : ((m : Int) != (i : Int)) = false := by simp [him]
    have hne' : (m != i) = false := by simp [him]
    have HIM := Hid.mk him
    clear him hmth
    go_wp2_with fail
    refine (pop_any D o m base g cap X PB f Dc _ (by omega) HD.out HQ.out hb).mono ?_
    intro e w2 hpop
    have hrem := removed_of (X := X) (Chg.refl _ _) (by rw [HIM.out]) (Perm.refl (m + 1) f) (fun h k h0 hk => h k h0 (by omega)) hpop
    have HR := Hid.mk hrem
    obtain ⟨_, rfl, _⟩ := hpop
    clear hrem
    go_wp2_with fail
    go_ret
    exact HR.out
  · have hne : ((m : Int) != (i : Int)) = true := by simp; omega
    have hne' : (m != i) = true := by simp; omega
    have hmswap := run_method_val w1 path_swap D o (some ⟨g, 0, none⟩) (m + 1) cap HQ.out.cell
    go_wp2_with fail
    obtain ⟨arr, ha1, ha2, ha3⟩ := HQ.out.row
    refine (swap_any g (m + 1) cap i m (some ⟨PB (f i), 0, none⟩) (some ⟨PB (f m), 0, none⟩) arr _ (by omega) (by omega) ha1 (ha3 i (by omega)) (ha3 m (by omega))).mono ?_
    rintro e w2 ⟨rfl, hg2, hs2, ho2, hB2⟩
    have HQ2 : Hid (QAt w2 D o g (m + 1) cap X PB (swp f i m)) := HQ.out.swap (by omega) (by omega) ha1 hg2 ho2
    have HC2 : Hid (Chg (· = g) w1 w2) := ⟨by rw [hs2]; exact Nat.le_refl _, fun b _ hb => ho2 b hb, fun B _ hB => hB2 B (hB g rfl)⟩
    clear hg2 hs2 ho2 hB2 ha1 ha2 ha3 hmth hmswap
    go_wp2_with fail
    refine (down_any D o g (m + 1) cap i m X PB (swp f i m) _ (by omega) (by omega) (by omega) HQ2.out).mono ?_
    rintro e w3 ⟨r, f3, rfl, hq3, hp3, hk3, hc3, hr0, hr1⟩
    have hP0 : Perm (m + 1) f (swp f i m) := Perm.swap f (by omega) (by omega)
    have hF1 : swp f i m m = f i := by unfold swp; rw [if_neg him, if_pos rfl]
    have HQ3 := Hid.mk hq3
    have HC3 : Hid (Chg (· = g) w1 w3) := HC2.out.trans hc3
    cases r
    · obtain ⟨rfl, hup⟩ := hr0 rfl
      have HUP := Hid.mk hup
      clear hr0 hr1 hq3 hp3 hk3 hc3 hup
      go_wp2_with fail
      refine (up_any D o g (m + 1) cap i X PB (swp f i m) _ (by omega) (by omega) HQ3.out).mono ?_
      rintro e w4 ⟨rfl, f4, hq4, hp4, hh4, hk4, hc4⟩
      have HQ4 := Hid.mk hq4
      have HC4 : Hid (Chg (· = g) w1 w4) := HC3.out.trans hc4
      have hD4 := (HC4.out.block D (lt_of_heap HD.out) hgD).trans HD.out
      have HD4 := Hid.mk hD4
      have HP4 := Hid.mk hp4
      have HH4 := Hid.mk hh4
      have HK4 := Hid.mk hk4
      clear hq4 hc4 hD4 hp4 hh4 hk4
      go_wp2_with fail
      refine (pop_any D o m base g cap X PB f4 Dc _ (by omega) HD4.out HQ4.out hb).mono ?_
      intro e w5 hpop
      have hrem := removed_of (X := X) (f := f) (i := i) HC4.out (by rw [HK4.out m (by omega), hF1]) (hP0.trans HP4.out) (fun h => HH4.out m (by omega) (by omega) (HUP.out (h.drop (by omega)))) hpop
      have HR := Hid.mk hrem
      obtain ⟨_, rfl, _⟩ := hpop
      clear hrem
      go_wp2_with fail
      go_ret
      exact HR.out
    · have HH := Hid.mk (hr1 rfl)
      have HP3 := Hid.mk hp3
      have HK3 := Hid.mk hk3
      have hD3 := (HC3.out.block D (lt_of_heap HD.out) hgD).trans HD.out
      have HD3 := Hid.mk hD3
      clear hr0 hr1 hq3 hp3 hk3 hc3 hD3
      go_wp2_with fail
      refine (pop_any D o m base g cap X PB f3 Dc _ (by omega) HD3.out HQ3.out hb).mono ?_
      intro e w5 hpop
      have hrem := removed_of (X := X) (f := f) (i := i) HC3.out (by rw [HK3.out m (by omega), hF1]) (hP0.trans HP3.out) (fun h => HH.out (h.drop (by omega))) hpop
      have HR := Hid.mk hrem
      obtain ⟨_, rfl, _⟩ := hpop
      clear hrem
      go_wp2_with fail
      go_ret
      exact HR.out
end Go.Proofs.Ybulkdzgm
