/-
  THE WALKS of Push, Pop and heap.Push.
-/
import Derived.Test.YbulkdzgmHeap
import Derived.Lib.AppendZeros
namespace Go.Proofs.Ybulkdzgm
open Go Go.RowKit

/-- The pointers of the first m places. -/
def ptrs (PB f : Nat → Nat) (m : Nat) : List Value := (List.range m).map fun k => .pointer (some ⟨PB (f k), 0, none⟩)
theorem ptrs_length (PB f : Nat → Nat) (m : Nat) : (ptrs PB f m).length = m := by simp [ptrs]
theorem ptrs_get (PB f : Nat → Nat) {m k : Nat} (hk : k < m) : (ptrs PB f m)[k]? = some (.pointer (some ⟨PB (f k), 0, none⟩)) := by
  simp [ptrs, hk]
/-- One more at the end. -/
def ext (f : Nat → Nat) (m x k : Nat) : Nat := if k = m then x else f k
theorem ptrs_ext (PB f : Nat → Nat) (m x : Nat) : ptrs PB f m ++ [.pointer (some ⟨PB x, 0, none⟩)] = ptrs PB (ext f m x) (m + 1) := by
  apply List.ext_getElem?
  intro k
  by_cases h1 : k < m
  · rw [List.getElem?_append_left (by rw [ptrs_length]; exact h1), ptrs_get PB f h1, ptrs_get PB _ (by omega)]
    unfold ext
    rw [if_neg (by omega)]
  · by_cases h2 : k = m
    · subst h2
      rw [List.getElem?_append_right (by rw [ptrs_length]; omega), ptrs_get PB _ (by omega), ptrs_length]
      unfold ext
      simp
    · rw [List.getElem?_append_right (by rw [ptrs_length]; omega), List.getElem?_eq_none (by rw [ptrs_length]; simp; omega), List.getElem?_eq_none (by rw [ptrs_length]; omega)]

theorem own_of {w : World} {D o g m cap base : Nat} {X : Nat → Item} {PB f : Nat → Nat} (h : QAt w D o g m cap X PB f) (hb : base ≤ g) : w.ownsRow base 41 1 (.slice (some ⟨g, 0, none⟩) m cap) m (ptrs PB f m) := by
  obtain ⟨arr, h1, h2, h3⟩ := h.row
  refine ⟨by rw [ptrs_length]; omega, .inr ⟨g, cap, arr, rfl, hb, h1, h.le, h.top, by omega, ?_⟩⟩
  have hle := h.le
  apply List.ext_getElem?
  intro k
  rw [List.getElem?_take]
  by_cases hk : k < m
  · rw [if_pos (by omega), ptrs_get PB f hk]
    have := h3 k hk
    simpa using this
  · rw [if_neg (by omega), List.getElem?_eq_none (by rw [ptrs_length]; omega)]
theorem qat_of {w : World} {D o m base : Nat} {v : Value} {X : Nat → Item} {PB f : Nat → Nat} (h : w.ownsRow base 41 1 v m (ptrs PB f m)) (hm : 0 < m) (hc : w.cell? ⟨D, o, none⟩ = some v) {Dc : Array Value} (hD : w.heap[D]? = some (.cells Dc 38 (0, 0)))
    (hi : ∀ k, k < m → w.heap[PB (f k)]? = some (.cells ((X (f k)).cells (f k)) 49 (0, 0))) : ∃ g cap, v = .slice (some ⟨g, 0, none⟩) m cap ∧ base ≤ g ∧ QAt w D o g m cap X PB f := by
  rcases h.2 with ⟨_, h0⟩ | ⟨g, cap, cur, rfl, hb, hg, hle, htop, hs, htk⟩
  · omega
  · refine ⟨g, cap, rfl, hb, hc, ⟨cur, hg, by omega, fun k hk => ?_⟩, hle, htop, hi, fun e => ?_⟩
    · have h1 := ptrs_get PB f hk
      rw [← htk, List.getElem?_take, if_pos (by omega)] at h1
      simpa using h1
    · subst e
      rw [hD] at hg
      simp at hg

theorem own_heap {w w' : World} {base m : Nat} {v : Value} {xs : List Value} (h : w.ownsRow base 41 1 v m xs) (hb : ∀ k, v.ownBlock = some k → w'.heap[k]? = w.heap[k]?) : w'.ownsRow base 41 1 v m xs := by
  refine ⟨h.1, ?_⟩
  rcases h.2 with h1 | ⟨g, cap, cur, rfl, h2, h3, h4⟩
  · exact .inl h1
  · exact .inr ⟨g, cap, cur, rfl, h2, (hb g rfl).trans h3, h4⟩
theorem own_below {w w' : World} {base m : Nat} {v : Value} {xs : List Value} (h : w.ownsRow base 41 1 v m xs) (hb : Below w.heap.size w w') : w'.ownsRow base 41 1 v m xs :=
  own_heap h (fun k hk => hb.block k (h.lt k hk).2)
theorem own_ne {w : World} {base m D : Nat} {v : Value} {xs : List Value} {Dc : Array Value} {t : TypeId} (h : w.ownsRow base 41 1 v m xs) (hD : w.heap[D]? = some (.cells Dc t (0, 0))) (ht : t ≠ 41) : v.ownBlock ≠ some D := by
  intro e
  rcases h.2 with ⟨rfl, _⟩ | ⟨g, cap, cur, rfl, h2, h3, h4⟩
  · simp [Value.ownBlock] at e
  · simp [Value.ownBlock] at e
    subst e
    rw [hD] at h3
    simp at h3
    exact ht h3.2

theorem info41' : (Yba.prog.info? 41).map (fun i => (i.zero, i.size, i.bytes)) = some (some (.pointer none), 1, 8) := by kernel_rfl

/-- append of one pointer onto a row of our own: and where the row lies then. -/
theorem append_one (w : World) (base m x : Nat) (PB f : Nat → Nat) (v : Value) (h : Nat) (hm : m ≤ 1000) (hown : w.ownsRow base 41 1 v m (ptrs PB f m)) (hbase : base ≤ w.heap.size) (hh : w.heap[h]? = some (.cells #[.pointer (some ⟨PB x, 0, none⟩)] 41 (0, 0))) :
    ∃ v' w', (Builtin.append_ #[35, 35] 35 #[v, .slice (some ⟨h, 0, none⟩) 1 1]).run Yba.prog w = .ok v' w' ∧ w'.ownsRow base 41 1 v' (m + 1) (ptrs PB (ext f m x) (m + 1)) ∧ w.grownBy w' v.ownBlock ∧ (v'.ownBlock = v.ownBlock ∨ v'.ownBlock = some w.heap.size) := by
  obtain ⟨i0, hi, hz0, hz1, hz2⟩ := info_parts info41'
  have hnews : ∀ j u, ([Value.pointer (some ⟨PB x, 0, none⟩)] : List Value)[j]? = some u → w.cell? ((⟨h, 0, none⟩ : Addr).add j) = some u := fun j u hu => by
    match j, hu with
    | 0, hu => simp at hu; subst hu; exact cell_heap hh rfl
  have hone : ∀ u ∈ ([Value.pointer (some ⟨PB x, 0, none⟩)] : List Value), u.oneCell' = true := fun u hu => by simp at hu; subst hu; rfl
  obtain ⟨v1, w2, hrun, hO2, hgr, _⟩ := run_append_own (P := Yba.prog) (w := w) base 35 35 41 i0 _ 1 8 Yba.underlying35 hi hz0 hz1 hz2 rfl (by omega) v m (ptrs PB f m) hown ⟨h, 0, none⟩ 1 1 _ rfl hnews hone (by unfold maxLen; omega) (by omega) hbase
  rw [ptrs_ext] at hO2
  refine ⟨v1, w2, hrun, hO2, hgr, ?_⟩
  rcases hown.2 with ⟨rfl, rfl⟩ | ⟨g, cap, cur, rfl, hbg, hg, hnc, hcm, hcs, htake⟩
  · have hr := run_append_nil (P := Yba.prog) w 35 35 41 i0 _ Yba.underlying35 hi hz0 ⟨h, 0, none⟩ 1 1 _ (by rw [hz1]; rfl) hnews (by omega) (by omega) (by rw [hz2]; omega)
    rw [hrun] at hr
    cases hr
    exact .inr rfl
  · by_cases hroom : m + 1 ≤ cap
    · have hr := run_append_room (P := Yba.prog) w 35 35 41 i0 Yba.underlying35 hi g m cap cur hg ⟨h, 0, none⟩ 1 1 _ (by rw [hz1]; rfl) hnews hone hroom (by rw [hz1]; simp; omega)
      rw [hrun] at hr
      cases hr
      exact .inl rfl
    · have hr := run_append_grow (P := Yba.prog) w 35 35 41 i0 _ Yba.underlying35 hi hz0 ⟨g, 0, none⟩ m cap (ptrs PB f m) (by rw [hz1, ptrs_length]; omega) (hown.cells (g := g) rfl) ⟨h, 0, none⟩ 1 1 _ (by rw [hz1]; rfl) hnews (by omega) (by omega) (growslice_fits (by omega) (by rw [hz2]; omega))
      rw [hrun] at hr
      cases hr
      exact .inr rfl

theorem assert41 (v : Value) (w : World) : (Instr.typeAssert (.iface 41 v) 20 41 false).run Yba.prog w = .ok v w := by kernel_rfl
attribute [local go_sem] assert41

/-- A queue in the dialer. -/
def Pushed (D o m base : Nat) (PB f : Nat → Nat) (x : Nat) (v : Value) (Dc : Array Value) (w w' : World) : Prop :=
  ∃ v', w'.heap[D]? = some (.cells (Dc.setIfInBounds o v') 38 (0, 0)) ∧ w'.ownsRow base 41 1 v' (m + 1) (ptrs PB (ext f m x) (m + 1)) ∧ (v'.ownBlock = v.ownBlock ∨ ∃ k, v'.ownBlock = some k ∧ w.heap.size ≤ k) ∧ Chg (fun b => b = D ∨ v.ownBlock = some b) w w'

set_option maxRecDepth 100000 in
set_option maxHeartbeats 1000000 in
theorem push_any (D o m base x : Nat) (PB f : Nat → Nat) (v : Value) (Dc : Array Value) (w : World) (hm : m ≤ 1000) (hD : w.heap[D]? = some (.cells Dc 38 (0, 0))) (hv : Dc[o]? = some v) (hown : w.ownsRow base 41 1 v m (ptrs PB f m)) (hbase : base ≤ w.heap.size) :
    Calls Yba.prog 56 #[.pointer (some ⟨D, o, none⟩), .iface 41 (.pointer (some ⟨PB x, 0, none⟩))] w fun e w' => e = .returned (.tuple #[]) ∧ Pushed D o m base PB f x v Dc w w' := by
  obtain ⟨i0, hi, hz0, hz1, hz2⟩ := info_parts info41'
  obtain ⟨a0, cap0, hva⟩ : ∃ a c, v = .slice a m c := by
    rcases hown.2 with ⟨h1, h2⟩ | ⟨g, cap, _, h1, _⟩
    · exact ⟨none, 0, by rw [h1, h2]⟩
    · exact ⟨_, _, h1⟩
  have c1 : w.cell? ⟨D, o, none⟩ = some (.slice a0 m cap0) := by rw [← hva]; exact cell_heap hD hv
  have HD := Hid.mk hD
  have HO := Hid.mk hown
  have HV := Hid.mk hva
  have HVO := Hid.mk hv
  clear hD hown hva hv
  go_enter Yba.func56, Yba.ntmps56
  go_wp2_with fail
  refine wp_region_pick3 [0, 1, 2, 4, 5] [3] [6, 7, 8, 9] [] [0, 1, 2, 3, 4, 5, 6] (fun w' => w'.cell? ⟨D, o, none⟩ = some (.slice a0 m cap0)) (by kernel_rfl) (by kernel_rfl) (fun _ _ d _ _ h => by cases d <;> exact h) c1 ?_
  iterate 5 (refine wpHead_cons (v := ?_) rfl (by rfl) ?_ ?_; rotate_left 1; (focus (rintro w0 -; go_simp; first | done | with_reducible rfl)); simp only [Act.put, List.setIfInBounds_toArray, List.set_cons_zero, List.set_cons_succ])
  refine wpHead_nil ?_
  iterate 1 (refine wpHead_cons (v := ?_) rfl (by rfl) ?_ ?_; rotate_left 1; (focus (rintro w0 s1; go_simp; first | done | with_reducible rfl)); simp only [Act.put, List.setIfInBounds_toArray, List.set_cons_zero, List.set_cons_succ])
  refine wpHead_nil ?_
  refine wpTailL_keep rfl (by rfl) (fun KK hKK => ?_)
  go_simp
  have hbx : Below w.heap.size w (w.alloc (.cells #[.pointer (some ⟨PB x, 0, none⟩)] 41)).drew := ((Below.refl _ _).alloc (Nat.le_refl _) _).drew
  have hnx : (w.alloc (.cells #[.pointer (some ⟨PB x, 0, none⟩)] 41)).drew.heap[w.heap.size]? = some (.cells #[.pointer (some ⟨PB x, 0, none⟩)] 41 (0, 0)) := heap_alloc_new _ _
  obtain ⟨w1, hw1⟩ : ∃ x', x' = (w.alloc (.cells #[.pointer (some ⟨PB x, 0, none⟩)] 41)).drew := ⟨_, rfl⟩
  rw [← hw1] at hbx hnx ⊢
  refine hKK.out _ _ (cell_below hbx c1) ?_
  clear hKK KK hw1
  have hO1 := own_below HO.out hbx
  have hD1 := heap_below hbx HD.out
  have hne := own_ne hO1 hD1 (by decide)
  rw [HV.out] at hO1
  obtain ⟨v1, w2, hrun, hO2, hgr, hat⟩ := append_one w1 base m x PB f _ w.heap.size hm hO1 (Nat.le_trans hbase hbx.size) hnx
  rw [← HV.out] at hgr hat
  have hD2 : w2.heap[D]? = some (.cells Dc 38 (0, 0)) := (hgr.block D (lt_of_heap hD1) (fun e => hne e.symm)).trans hD1
  refine wpTailL_step rfl rfl (by rfl) (fun KK hKK => ?_)
  refine Go.Lib.wp_append_run _ _ _ 35 35 rfl (.slice a0 m cap0) (.slice (some ⟨w.heap.size, 0, none⟩) 1 1) rfl rfl v1 w2 hrun ?_
  refine hKK.out _ _ ?_
  clear hKK KK hrun hnx c1
  refine wpTailL_list _ _ _ rfl ?_
  simp only [List.filterMap_cons, List.filterMap_nil, List.getElem?_cons_succ, List.getElem?_cons_zero]
  have c2 := cell_heap hD2 (show Dc[o]? = some (.slice a0 m cap0) from by rw [← HV.out]; exact HVO.out)
  have c3 := frozen_heap (o := o) hD2
  obtain ⟨g1, cap1, hv1⟩ : ∃ g c, v1 = .slice (some ⟨g, 0, none⟩) (m + 1) c := by
    rcases hO2.2 with ⟨_, h1⟩ | ⟨g, c, _, h1, _⟩
    · omega
    · exact ⟨g, c, h1⟩
  have hne2 := own_ne hO2 hD2 (by decide)
  have HD2 := Hid.mk hD2
  have HO2 := Hid.mk hO2
  have HGR := Hid.mk hgr
  have HAT := Hid.mk hat
  have HNE := Hid.mk hne2
  clear hD2 hO2 hgr hat hne2 hne hO1 hD1
  subst hv1
  go_wp2_with fail
  go_end0
  refine ⟨rfl, _, heap_setCell_same HD2.out _, ?_, ?_, ?_⟩
  · refine own_heap HO2.out (fun k hk => Below.heap_setCell _ _ _ _ (fun e => HNE.out (hk.trans (congrArg some e))))
  · rcases HAT.out with h | h
    · exact .inl h
    · exact .inr ⟨_, h, hbx.size⟩
  · have hg := HGR.out
    have k1 : Chg (fun b => b = D ∨ v.ownBlock = some b) w1 w2 := ⟨hg.size, fun b hb hp => hg.block b hb (fun e => hp (.inr e.symm)), fun B hB hp => ⟨hg.os, hg.tape, hg.output, hg.size, fun k hk => hg.block k (Nat.lt_of_lt_of_le hk hB) (fun e => by have := hp k (.inr e.symm); omega)⟩⟩
    refine ((Chg.of_below hbx).trans k1).trans ⟨by simp [World.setCell], fun b _ hp => Below.heap_setCell _ _ _ _ (fun e => hp (.inl e)), fun B _ hp => (Below.refl _ _).setCell (hp D (.inl rfl)) _⟩
end Go.Proofs.Ybulkdzgm
