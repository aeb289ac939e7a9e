/-
  THE WALKS of heardOfAnother and learn.
-/
import Derived.Test.YbulkdzhaEq
import Derived.Test.YbulkdzhaPick2
namespace Go.Proofs.Ybulkdzha
open Go Go.RowKit
attribute [local go_sem ↓] loadAt25 storeAt25 loadAt38 storeAt38 equalIn38
attribute [local go_sem] run_load25 run_store25 run_eq25 guard25 has20_drew has20_drewN row20_drew row20_drewN soft_drew soft_drewN run_load38 run_store38 run_eq38 guard38 has6_drew has6_drewN row6_drew row6_drewN

/-- A node: its own identifier, its two rows, whether it is alone. -/
structure IsNode (N : Array Value) (s : Nat) (ids cache : Value) (al : Bool) : Prop where
  size : 20 ≤ N.size
  self : N.extract 0 20 = idv s
  ids : N[34]? = some ids
  cache : N[35]? = some cache
  alone : N[71]? = some (.bool al)

set_option maxRecDepth 100000 in
theorem heard_any (p : Nat) (al : Bool) (w : World) (h1 : w.cell? ⟨p, 71, none⟩ = some (.bool al)) (h2 : w.frozen? ⟨p, 71, none⟩ = false) :
    Calls Yba.prog 8 #[.pointer (some ⟨p, 0, none⟩)] w fun e w' => (∃ v, e = .returned v) ∧ w' = w.setCell ⟨p, 71, none⟩ (.bool false) := by
  go_enter Yba.func8, Yba.ntmps8
  go_wp2_with fail
  go_end0
  exact ⟨⟨_, rfl⟩, rfl⟩

/-- A peer: its identifier and where it is. -/
structure IsPeer (c : Array Value) (u : Nat) (ad : Int) : Prop where
  size : c.size = 21
  id : c.extract 0 20 = idv u
  addr : c[20]? = some (.int .i64 ad)

theorem IsPeer.has {w : World} {b u : Nat} {ad : Int} {c : Array Value} {t : TypeId} {fr : Nat × Nat} (h : IsPeer c u ad) (hh : w.heap[b]? = some (.cells c t fr)) : has20 w b 0 := by unfold has20; rw [blk_of hh, h.size]; omega
theorem IsPeer.row {w : World} {b u : Nat} {ad : Int} {c : Array Value} {t : TypeId} {fr : Nat × Nat} (h : IsPeer c u ad) (hh : w.heap[b]? = some (.cells c t fr)) : row20 w b 0 = idv u := by unfold row20; rw [blk_of hh]; exact h.id
theorem IsNode.has {w : World} {b s : Nat} {N : Array Value} {x y : Value} {al : Bool} {t : TypeId} {fr : Nat × Nat} (h : IsNode N s x y al) (hh : w.heap[b]? = some (.cells N t fr)) : has20 w b 0 := by unfold has20; rw [blk_of hh]; have := h.size; omega
theorem IsNode.row {w : World} {b s : Nat} {N : Array Value} {x y : Value} {al : Bool} {t : TypeId} {fr : Nat × Nat} (h : IsNode N s x y al) (hh : w.heap[b]? = some (.cells N t fr)) : row20 w b 0 = idv s := by unfold row20; rw [blk_of hh]; exact h.self

set_option maxRecDepth 100000 in
set_option maxHeartbeats 1000000 in
theorem learn_self (p u : Nat) (ad seen : Int) (c N : Array Value) (ids cache : Value) (al : Bool) (w : World) (hu : u < 4294967296) (hc : IsPeer c u ad) (hN : IsNode N u ids cache al) (hp : w.heap[p]? = some (.cells N 71 (0, 0))) :
    Calls Yba.prog 6 #[.pointer (some ⟨p, 0, none⟩), .agg c, .int .i64 seen] w fun e w' => e = .returned (.int .i64 (-1)) ∧ Below w.heap.size w w' := by
  have hcs := hc.size
  have hsm := sameB_self (idv u)
  have hid := idv_isId u hu
  have HP := Hid.mk hp
  clear hp
  go_enter Yba.func6, Yba.ntmps6
  go_wp2_with fail
  obtain ⟨w1, hw1⟩ : ∃ x, x = w.alloc (.cells c 41) := ⟨_, rfl⟩
  rw [← hw1]
  have hB : Hid (w1.heap[w.heap.size]? = some (.cells c 41 (0, 0))) := by rw [hw1]; exact heap_alloc_new _ _
  have hP1 : Hid (w1.heap[p]? = some (.cells N 71 (0, 0))) := by rw [hw1]; exact heap_old HP.out _
  have hbel : Below w.heap.size w w1 := by rw [hw1]; exact (Below.refl _ _).alloc (Nat.le_refl _) _
  have q1 := hc.has hB.out
  have q2 := hc.row hB.out
  have q3 := hN.has hP1.out
  have q4 := hN.row hP1.out
  clear hw1 HP
  go_quiet (fail)
  go_wp2_with fail
  go_ret
  exact ⟨rfl, below_drewN hbel _⟩

/-- The later of two times. -/
def later (sn seen : Int) : Int := if sn < seen then seen else sn

set_option maxRecDepth 100000 in
set_option maxHeartbeats 1000000 in
theorem learn_found (p u s g h n k : Nat) (ad seen sn : Int) (c N A C : Array Value) (K : Nat → Nat) (al : Bool) (w : World) (hu : u < 4294967296) (hs : s < 4294967296) (hus : u ≠ s) (hn : n ≤ 65536) (hc : IsPeer c u ad)
    (hN : IsNode N s (.slice (some ⟨g, 0, none⟩) n n) (.slice (some ⟨h, 0, none⟩) n n) al) (hp : w.heap[p]? = some (.cells N 71 (0, 0)))
    (hA : Keys A n K) (hg : w.heap[g]? = some (.cells A 30 (0, 0))) (hh : w.heap[h]? = some (.cells C 38 (0, 0))) (hgp : g ≠ p) (hhp : h ≠ p)
    (hk : k < n) (hku : K k = u) (hsn : C[k * 6 + 1]? = some (.int .i64 sn)) :
    Calls Yba.prog 6 #[.pointer (some ⟨p, 0, none⟩), .agg c, .int .i64 seen] w fun e w' => e = .returned (.int .i64 k) ∧
      w'.heap[p]? = some (.cells (N.setIfInBounds 71 (.bool false)) 71 (0, 0)) ∧ w'.heap[h]? = some (.cells (C.setIfInBounds (k * 6 + 1) (.int .i64 (later sn seen))) 38 (0, 0)) ∧ w.heap.size ≤ w'.heap.size ∧ (∀ b, b < w.heap.size → b ≠ p → b ≠ h → w'.heap[b]? = w.heap[b]?) ∧
      ∀ B, B ≤ p → B ≤ h → B ≤ w.heap.size → Below B w w' := by
  have hcs := hc.size
  have hsm : sameB (idv u) (idv s) = false := by rw [idv_same u s hu hs]; simp [hus]
  have hid := idv_isId u hu
  have hid2 := idv_isId s hs
  have HP := Hid.mk hp
  have HG := Hid.mk hg
  have HH := Hid.mk hh
  clear hp hg hh
  go_enter Yba.func6, Yba.ntmps6
  go_wp2_with fail
  obtain ⟨w1, hw1⟩ : ∃ x, x = w.alloc (.cells c 41) := ⟨_, rfl⟩
  rw [← hw1]
  have hB : Hid (w1.heap[w.heap.size]? = some (.cells c 41 (0, 0))) := by rw [hw1]; exact heap_alloc_new _ _
  have hP1 : Hid (w1.heap[p]? = some (.cells N 71 (0, 0))) := by rw [hw1]; exact heap_old HP.out _
  have hG1 : Hid (w1.heap[g]? = some (.cells A 30 (0, 0))) := by rw [hw1]; exact heap_old HG.out _
  have hH1 : Hid (w1.heap[h]? = some (.cells C 38 (0, 0))) := by rw [hw1]; exact heap_old HH.out _
  have hbel : Below w.heap.size w w1 := by rw [hw1]; exact (Below.refl _ _).alloc (Nat.le_refl _) _
  have q1 := hc.has hB.out
  have q2 := hc.row hB.out
  have q3 := hN.has hP1.out
  have q4 := hN.row hP1.out
  have lp := lt_of_heap HP.out
  have lg := lt_of_heap HG.out
  have lh := lt_of_heap HH.out
  clear hw1 HP HG HH
  go_quiet (fail)
  have hB2 : Hid ((w1.drewN nq).heap[w.heap.size]? = some (.cells c 41 (0, 0))) := hB.out
  have hP2 : Hid ((w1.drewN nq).heap[p]? = some (.cells N 71 (0, 0))) := hP1.out
  have hG2 : Hid ((w1.drewN nq).heap[g]? = some (.cells A 30 (0, 0))) := hG1.out
  have hH2 : Hid ((w1.drewN nq).heap[h]? = some (.cells C 38 (0, 0))) := hH1.out
  have hbel2 : Below w.heap.size w (w1.drewN nq) := below_drewN hbel _
  obtain ⟨w2, hw2⟩ : ∃ x, x = w1.drewN nq := ⟨_, rfl⟩
  rw [← hw2] at hB2 hP2 hG2 hH2 hbel2 ⊢
  clear hw2 hB hP1 hG1 hH1 hbel q1 q2 q3 q4
  go_wp2_with fail
  refine (heard_any p al _ (cell_heap hP2.out hN.alone) (frozen_heap hP2.out)).mono ?_
  rintro e w3 ⟨⟨v, rfl⟩, hw3⟩
  have hB3 : Hid (w3.heap[w.heap.size]? = some (.cells c 41 (0, 0))) := by rw [hw3]; exact (Below.heap_setCell _ _ _ _ (by simp; omega)).trans hB2.out
  have hP3 : Hid (w3.heap[p]? = some (.cells (N.setIfInBounds 71 (.bool false)) 71 (0, 0))) := by rw [hw3]; exact heap_setCell_same hP2.out _
  have hG3 : Hid (w3.heap[g]? = some (.cells A 30 (0, 0))) := by rw [hw3]; exact (Below.heap_setCell _ _ _ _ hgp).trans hG2.out
  have hH3 : Hid (w3.heap[h]? = some (.cells C 38 (0, 0))) := by rw [hw3]; exact (Below.heap_setCell _ _ _ _ hhp).trans hH2.out
  have hk3 : Hid (w.heap.size ≤ w3.heap.size ∧ (∀ b, b < w.heap.size → b ≠ p → w3.heap[b]? = w.heap[b]?) ∧ ∀ B, B ≤ p → B ≤ w.heap.size → Below B w w3) := by
    rw [hw3]
    refine ⟨by simp [World.setCell]; exact hbel2.size, fun b hb hbp => (Below.heap_setCell _ _ _ _ hbp).trans (hbel2.block b hb), fun B hB1 hB2 => (hbel2.mono hB2).setCell hB1 _⟩
  have q1 := hc.has hB3.out
  have q2 := hc.row hB3.out
  have q3 : w3.cell? ⟨p, 34, none⟩ = some (.slice (some ⟨g, 0, none⟩) n n) := cell_heap hP3.out (by rw [Array.getElem?_setIfInBounds_ne (by omega)]; exact hN.ids)
  clear hw3 hB2 hP2 hG2 hH2 hbel2
  go_wp2_with fail
  refine wp_region_pick2 [0, 1, 2, 3, 4, 5] [6, 7] [8, 9, 10, 11] [0, 1, 2, 3, 4, 5] (fun w' => has20 w' w.heap.size 0 ∧ row20 w' w.heap.size 0 = idv u ∧ w'.cell? ⟨p, 34, none⟩ = some (.slice (some ⟨g, 0, none⟩) n n)) (by kernel_rfl) (by kernel_rfl) (fun _ _ d _ _ h => by cases d <;> exact h) ⟨q1, q2, q3⟩ ?_
  iterate 6 (refine wpHead_cons (v := ?_) rfl (by rfl) ?_ ?_; rotate_left 1; (focus (rintro w0 ⟨s1, s2, s3⟩; go_simp; first | done | with_reducible rfl)); simp only [Act.put, List.setIfInBounds_toArray, List.set_cons_zero, List.set_cons_succ])
  refine wpHead_nil ?_
  refine wpTailL_step rfl rfl (by rfl) (fun KK hKK => ?_)
  go_simp
  refine (search_any g n n u A K hu hA hn _ (by exact hG3.out)).mono ?_
  rintro e w4 ⟨⟨k', hk1, hk2, hk4, rfl⟩, hb4'⟩
  obtain rfl : k' = k := by
    rcases Nat.lt_trichotomy k' k with h1 | h1 | h1
    · have h2 := hk4 k' (Nat.le_refl _) (by omega)
      have h3 := hA.mono k' k h1 hk
      omega
    · exact h1
    · have h2 := hk2 k h1
      omega
  have hd : decide (k' < n ∧ K k' = u) = true := by simp [hk, hku]
  rw [hd]
  refine hKK.out _ _ ?_
  clear hKK KK hk1 hk2 hk4 hd
  have hb4 : Below w3.heap.size w3 w4 := (Below.refl _ _).drew.trans hb4'
  have hP4 : Hid (w4.heap[p]? = some (.cells (N.setIfInBounds 71 (.bool false)) 71 (0, 0))) := heap_below hb4 hP3.out
  have hH4 : Hid (w4.heap[h]? = some (.cells C 38 (0, 0))) := heap_below hb4 hH3.out
  have hk4 : Hid (w.heap.size ≤ w4.heap.size ∧ (∀ b, b < w.heap.size → b ≠ p → w4.heap[b]? = w.heap[b]?) ∧ ∀ B, B ≤ p → B ≤ w.heap.size → Below B w w4) := 
    have h3 := hk3.out
    ⟨Nat.le_trans h3.1 hb4.size, fun b hb hbp => (hb4.block b (Nat.lt_of_lt_of_le hb h3.1)).trans (h3.2.1 b hb hbp), fun B hB1 hB2 => (h3.2.2 B hB1 hB2).trans (hb4.mono (Nat.le_trans hB2 h3.1))⟩
  clear hb4' hb4 hB3 hP3 hG3 hH3 hk3 q1 q2 q3
  refine wpTailL_step rfl rfl (by rfl) (fun KK hKK => ?_)
  go_simp
  refine hKK.out _ _ ?_
  clear hKK KK
  refine wpTailL_nil ?_
  iterate 4 (refine wpHead_cons (v := ?_) rfl (by rfl) ?_ ?_; rotate_left 1; (focus (rintro w0 -; go_simp; first | done | with_reducible rfl)); simp only [Act.put, List.setIfInBounds_toArray, List.set_cons_zero, List.set_cons_succ])
  refine wpHead_nil ?_
  have q1 : w4.cell? ⟨p, 35, none⟩ = some (.slice (some ⟨h, 0, none⟩) n n) := cell_heap hP4.out (by rw [Array.getElem?_setIfInBounds_ne (by omega)]; exact hN.cache)
  have q2 : w4.cell? ⟨h, k' * 6 + 1, none⟩ = some (.int .i64 sn) := cell_heap hH4.out hsn
  have q3 : w4.frozen? ⟨h, k' * 6 + 1, none⟩ = false := frozen_heap hH4.out
  have k0 : (0 : Int) ≤ (k' : Int) := by omega
  have k1 : (k' : Int) < (n : Int) := by omega
  go_wp2_with fail
  refine wp_region_pick [0, 1, 2, 3, 4, 5, 6, 7, 8, 9, 10, 11, 12, 13, 14, 15, 16] [17] [0, 1, 2, 3, 4, 5, 6, 7, 8, 9, 10, 11, 12, 13, 14, 15, 16] (fun w' => w'.cell? ⟨p, 35, none⟩ = some (.slice (some ⟨h, 0, none⟩) n n) ∧ w'.cell? ⟨h, k' * 6 + 1, none⟩ = some (.int .i64 sn)) (by kernel_rfl) (by kernel_rfl) (fun _ _ d _ _ h => by cases d <;> exact h) ⟨q1, q2⟩ ?_
  iterate 17 (refine wpHead_cons (v := ?_) rfl (by rfl) ?_ ?_; rotate_left 1; (focus (rintro w0 ⟨s1, s2⟩; go_simp; first | done | with_reducible rfl)); simp only [Act.put, List.setIfInBounds_toArray, List.set_cons_zero, List.set_cons_succ])
  refine wpHead_nil ?_
  obtain ⟨mx, hmx⟩ : ∃ x, x = if sn < seen then seen else sn := ⟨_, rfl⟩
  rw [← hmx]
  have HM := Hid.mk hmx
  clear hmx
  refine wpTail_list _ _ _ rfl ?_
  simp only [List.filterMap_cons, List.filterMap_nil, List.getElem?_cons_succ, List.getElem?_cons_zero]
  go_wp2_with fail
  go_ret
  have h4 := hk4.out
  refine ⟨rfl, ?_, ?_, ?_, fun b hb hbp hbh => ?_, fun B hB1 hB2 hB3 => ?_⟩
  · exact (Below.heap_setCell _ _ _ _ (fun e => hhp e.symm)).trans hP4.out
  · unfold later; rw [← HM.out]; exact heap_setCell_same hH4.out _
  · simp [World.setCell]; exact h4.1
  · exact (Below.heap_setCell _ _ _ _ hbh).trans (h4.2.1 b hb hbp)
  · exact (h4.2.2 B hB1 hB3).drew.setCell hB2 _
end Go.Proofs.Ybulkdzha
