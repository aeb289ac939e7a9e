/-
  THE WALK of (*packer).runBound.
-/
import Derived.Test.YbulkdzeiDoorWalksA
import Derived.Test.YbulkdzeiDoorRegion
namespace Go.Proofs.YbulkdzeiDoor.A
open Go Go.RowKit

/-- What runBound is told of the world: the packer's list, its jobs, the variable 'unbound'. -/
structure Jobs (w : World) (p L n : Nat) (C M : Nat → Nat) : Prop where
  u0 : w.cell? ⟨0, 0, none⟩ = some (.float .f64 9218868437227405312)
  u1 : w.cell? ⟨0, 1, none⟩ = some (.float .f64 9218868437227405312)
  u2 : w.cell? ⟨0, 2, none⟩ = some (.float .f64 9218868437227405312)
  lists : w.cell? ⟨p, 3, none⟩ = some (.slice (some ⟨L, 0, none⟩) n n)
  cpu : ∀ i, i < n → w.cell? ⟨L, i * 5, none⟩ = some (.float .f64 (C i))
  mem : ∀ i, i < n → w.cell? ⟨L, i * 5 + 1, none⟩ = some (.float .f64 (M i))
  hL : L < w.heap.size
  hC : ∀ i, i < n → C i < 18446744073709551616
  hM : ∀ i, i < n → M i < 18446744073709551616

theorem lt_of_cell? {w : World} {b o : Nat} {v : Value} (h : w.cell? ⟨b, o, none⟩ = some v) : b < w.heap.size := World.block_lt_of_cell? w _ h

theorem cell_below {w w' : World} {p : Addr} {v : Value} (hb : Below w.heap.size w w') (h : w.cell? p = some v) : w'.cell? p = some v := (hb.cell (World.block_lt_of_cell? w p h)).trans h
theorem frozen_below {w w' : World} {p : Addr} {v : Value} (hb : Below w.heap.size w w') (h : w.cell? p = some v) (hf : w.frozen? p = false) : w'.frozen? p = false := (hb.frozen (World.block_lt_of_cell? w p h)).trans hf

theorem heap_setCell_same {w : World} {b o : Nat} {c : Array Value} {t : TypeId} {fr : Nat × Nat} (h : w.heap[b]? = some (.cells c t fr)) (v : Value) :
    (w.setCell ⟨b, o, none⟩ v).heap[b]? = some (.cells (c.setIfInBounds o v) t fr) := by
  simp [World.setCell, Array.getElem?_modify, h]
theorem heap_alloc2 (w : World) (o o' : Obj) : ((w.alloc o).alloc o').heap[w.heap.size + 1]? = some o' := by
  have h := heap_alloc_new (w.alloc o) o'
  rwa [show (w.alloc o).heap.size = w.heap.size + 1 by simp] at h
theorem heap_alloc1 (w : World) (o o' : Obj) : ((w.alloc o).alloc o').heap[w.heap.size]? = some o :=
  (Below.heap_alloc _ _ _ (by simp)).trans (heap_alloc_new _ _)
theorem least_step {X : Nat → Nat} {lo k j c x : Nat} (h1 : j ≤ lo + k) (h2 : lo + k ≤ j) (hm : MinR c (X j) x) (hc : Sim c (least X lo k)) (hX : X j < 18446744073709551616) : Sim x (least X lo (k + 1)) := by
  obtain rfl : j = lo + k := by omega
  exact hm.sim hc (Or.inr ⟨rfl, hX⟩)
theorem least_stepS {X : Nat → Nat} {lo k j c x t : Nat} (h1 : j ≤ lo + k) (h2 : lo + k ≤ j) (hm : MinR c t x) (hc : Sim c (least X lo k)) (hX : Sim t (X j)) : Sim x (least X lo (k + 1)) := by
  obtain rfl : j = lo + k := by omega
  exact hm.sim hc hX
theorem least_end {X : Nat → Nat} {R k j n c : Nat} (h1 : j ≤ R * 8 + k) (h2 : R * 8 + k ≤ j) (hk : k ≤ 8) (hk2 : 1 ≤ k → j ≤ n) (hlt : ¬ (k < 8 ∧ j < n)) (h : Sim c (least X (R * 8) k)) : Sim c (least X (R * 8) (min 8 (n - R * 8))) := by
  have : min 8 (n - R * 8) = k := by omega
  rw [this]; exact h
theorem set3 {w : World} {b : Nat} {t : TypeId} {c m s : Value} {fr : Nat × Nat} (h : w.heap[b]? = some (.cells #[c, m, s] t fr)) (x y z : Value) :
    (((w.setCell ⟨b, 0, none⟩ x).setCell ⟨b, 1, none⟩ y).setCell ⟨b, 2, none⟩ z).heap[b]? = some (.cells #[x, y, z] t fr) := by
  have := heap_setCell_same (o := 2) (heap_setCell_same (o := 1) (heap_setCell_same (o := 0) h x) y) z
  simpa using this

attribute [local go_sem ↓] run_min run_fadd
attribute [local go_sem] run_store_float setCell_drewN alloc_drewN

set_option maxHeartbeats 400000 in
theorem run_any (w : World) (p L n R : Nat) (C M : Nat → Nat) (hj : Jobs w p L n C M) (hn : n ≤ 1048576) (hR : R ≤ 1099511627776) :
    Calls Ybad.prog 5 #[.pointer (some ⟨p, 0, none⟩), .int .i64 R] w fun e w' => ∃ c m s, e = .returned (.agg #[.float .f64 c, .float .f64 m, .float .f64 s]) ∧
      Sim c (least C (R * 8) (min 8 (n - R * 8))) ∧ Sim m (least M (R * 8) (min 8 (n - R * 8))) ∧ Sim s (least (fun i => sumc (C i) (M i)) (R * 8) (min 8 (n - R * 8))) ∧ Below w.heap.size w w' := by
  obtain ⟨h0, h1, h2, h3, h4, h5, hL, hC, hM⟩ := hj
  have b0 := lt_of_cell? h0
  have bp := lt_of_cell? h3
  go_enter Ybad.func5, Ybad.ntmps5
  go_wp2
  go_loopw [6] (fun i wr => ∃ (j k c m s : Nat), j ≤ R * 8 + k ∧ R * 8 + k ≤ j ∧ k ≤ 8 ∧ (1 ≤ k → j ≤ n) ∧ i = .int .i64 (j : Int) ∧ Sim c (least C (R * 8) k) ∧ Sim m (least M (R * 8) k) ∧ Sim s (least (fun i => sumc (C i) (M i)) (R * 8) k) ∧
      wr.heap[w.heap.size]? = some (.cells #[.float .f64 0, .float .f64 0, .float .f64 0] 41 (0, 0)) ∧
      wr.heap[w.heap.size + 1]? = some (.cells #[.float .f64 c, .float .f64 m, .float .f64 s] 41 (0, 0)) ∧ Below w.heap.size w wr) (fun i _ => (R * 8 + 8 - intOf i).toNat)
  case atStart => exact ⟨R * 8, 0, inf, inf, inf, by omega, by omega, by omega, by omega, by go_num, sim_inf, sim_inf, sim_inf, heap_alloc1 _ _ _, heap_alloc2 _ _ _, ((Below.refl _ _).alloc (Nat.le_refl _) _).alloc (by simp) _⟩
  case round =>
    obtain ⟨j, k, c, m, s, j1, j2, hk, hk2, rfl, sc, sm, ss, hA, hB, hbel⟩ := hrel
    have c3 : wr.cell? ⟨p, 3, none⟩ = some (.slice (some ⟨L, 0, none⟩) n n) := (hbel.cell (p := ⟨p, 3, none⟩) bp).trans h3
    have d0 : wr.cell? ⟨w.heap.size + 1, 0, none⟩ = some (.float .f64 c) := by simp [World.cell?, hB]
    have d1 : wr.cell? ⟨w.heap.size + 1, 1, none⟩ = some (.float .f64 m) := by simp [World.cell?, hB]
    have d2 : wr.cell? ⟨w.heap.size + 1, 2, none⟩ = some (.float .f64 s) := by simp [World.cell?, hB]
    have f0 : wr.frozen? ⟨w.heap.size + 1, 0, none⟩ = false := by simp [World.frozen?, hB]
    have f1 : wr.frozen? ⟨w.heap.size + 1, 1, none⟩ = false := by simp [World.frozen?, hB]
    have f2 : wr.frozen? ⟨w.heap.size + 1, 2, none⟩ = false := by simp [World.frozen?, hB]
    by_cases hlt : k < 8 ∧ j < n
    · obtain ⟨hk8, hjn⟩ := hlt
      have hj0 : (0 : Int) ≤ (j : Int) := by omega
      have hj1 : (j : Int) < (n : Int) := by omega
      have c4 : wr.cell? ⟨L, j * 5, none⟩ = some (.float .f64 (C j)) := (hbel.cell (p := ⟨L, j * 5, none⟩) hL).trans (h4 j hjn)
      have c5 : wr.cell? ⟨L, j * 5 + 1, none⟩ = some (.float .f64 (M j)) := (hbel.cell (p := ⟨L, j * 5 + 1, none⟩) hL).trans (h5 j hjn)
      clear h0 h1 h2 h3 h4 h5
      go_wp2
      all_goals
        refine wp_region_held_tail 19 20 (fun w' => w'.cell? ⟨p, 3, none⟩ = some (.slice (some ⟨L, 0, none⟩) n n) ∧ w'.cell? ⟨L, j * 5, none⟩ = some (.float .f64 (C j)) ∧ w'.cell? ⟨L, j * 5 + 1, none⟩ = some (.float .f64 (M j)) ∧
          w'.cell? ⟨w.heap.size + 1, 0, none⟩ = some (.float .f64 c) ∧ w'.cell? ⟨w.heap.size + 1, 1, none⟩ = some (.float .f64 m) ∧ w'.cell? ⟨w.heap.size + 1, 2, none⟩ = some (.float .f64 s))
          (by kernel_rfl) (by kernel_rfl) (fun _ _ d _ _ h => by cases d <;> exact h) ⟨c3, c4, c5, d0, d1, d2⟩ ?_
        simp only [List.take_succ_cons, List.take_zero, List.drop_succ_cons, List.drop_zero]
        iterate 19 (refine wpHeld_cons (v := ?_) (by rfl) ?_ ?_; rotate_left 1; (focus (intro w0 hS0; go_simp; first | done | with_reducible rfl)); simp only [Act.put, List.setIfInBounds_toArray, List.set_cons_zero, List.set_cons_succ])
        refine wpHeld_nil ?_
        refine wpSeqS_step (k := 0) (by rfl) (fun K hK => ?_)
        go_simp
        refine (boundOf_any _ _ _).mono ?_
        rintro e w1 ⟨t, rfl, hadd, hb1⟩
        refine hK.out _ _ ⟨cell_below hb1 (by exact c3), cell_below hb1 (by exact c4), cell_below hb1 (by exact c5), cell_below hb1 (by exact d0), cell_below hb1 (by exact d1), cell_below hb1 (by exact d2)⟩ ?_
        clear hK K
        refine wpSeqS_zero ?_
        go_wp2_with fail
        refine (join_any _ _ _ _ _ _ _).mono ?_
        rintro e w2 ⟨x, y, z, rfl, hx, hy, hz, hb2⟩
        have hs1 : wr.heap.size ≤ w1.heap.size := hb1.size
        have hs2 : w1.heap.size ≤ w2.heap.size := hb2.size
        have hwr : w.heap.size + 1 < wr.heap.size := lt_of_cell? d0
        have hB2 : w2.heap[w.heap.size + 1]? = some (.cells #[.float .f64 c, .float .f64 m, .float .f64 s] 41 (0, 0)) := ((hb2.block _ (by omega)).trans (hb1.block _ hwr)).trans hB
        have hA2 : w2.heap[w.heap.size]? = some (.cells #[.float .f64 0, .float .f64 0, .float .f64 0] 41 (0, 0)) := ((hb2.block _ (by omega)).trans (hb1.block _ (by show _ < wr.heap.size; omega))).trans hA
        have e0 : w2.cell? ⟨w.heap.size + 1, 0, none⟩ = some (.float .f64 c) := by simp [World.cell?, hB2]
        have e1 : w2.cell? ⟨w.heap.size + 1, 1, none⟩ = some (.float .f64 m) := by simp [World.cell?, hB2]
        have e2 : w2.cell? ⟨w.heap.size + 1, 2, none⟩ = some (.float .f64 s) := by simp [World.cell?, hB2]
        have g0 : w2.frozen? ⟨w.heap.size + 1, 0, none⟩ = false := by simp [World.frozen?, hB2]
        have g1 : w2.frozen? ⟨w.heap.size + 1, 1, none⟩ = false := by simp [World.frozen?, hB2]
        have g2 : w2.frozen? ⟨w.heap.size + 1, 2, none⟩ = false := by simp [World.frozen?, hB2]
        have HB2 : Hid (w2.heap[w.heap.size + 1]? = some (.cells #[.float .f64 c, .float .f64 m, .float .f64 s] 41 (0, 0))) := hB2
        have HA2 : Hid (w2.heap[w.heap.size]? = some (.cells #[.float .f64 0, .float .f64 0, .float .f64 0] 41 (0, 0))) := hA2
        clear hB2 hA2 hA hB d0 d1 d2 f0 f1 f2 c3 c4 c5
        go_wp2
        go_roundw
        case rel =>
          refine ⟨j + 1, k + 1, x, y, z, by omega, by omega, by omega, fun _ => by omega, by go_num, ?_, ?_, ?_, ?_, set3 HB2.out _ _ _, ?_⟩
          · exact least_step j1 j2 hx sc (hC j hjn)
          · exact least_step j1 j2 hy sm (hM j hjn)
          · exact least_stepS (X := fun i => sumc (C i) (M i)) j1 j2 hz ss hadd.sim
          · rw [Below.heap_setCell _ _ _ _ (by simp), Below.heap_setCell _ _ _ _ (by simp), Below.heap_setCell _ _ _ _ (by simp)]; exact HA2.out
          · exact (((hbel.drew.trans ((hb1.mono (by show w.heap.size ≤ wr.heap.size; omega)).trans (hb2.mono (by omega)))).setCell (by simp) _).setCell (by simp) _).setCell (by simp) _
        case measure => simp [intOf]; omega
    · have a0 : wr.cell? ⟨w.heap.size, 0, none⟩ = some (.float .f64 0) := by simp [World.cell?, hA]
      have a1 : wr.cell? ⟨w.heap.size, 1, none⟩ = some (.float .f64 0) := by simp [World.cell?, hA]
      have a2 : wr.cell? ⟨w.heap.size, 2, none⟩ = some (.float .f64 0) := by simp [World.cell?, hA]
      have b0 : wr.frozen? ⟨w.heap.size, 0, none⟩ = false := by simp [World.frozen?, hA]
      have b1 : wr.frozen? ⟨w.heap.size, 1, none⟩ = false := by simp [World.frozen?, hA]
      have b2 : wr.frozen? ⟨w.heap.size, 2, none⟩ = false := by simp [World.frozen?, hA]
      have HA : Hid (wr.heap[w.heap.size]? = some (.cells #[.float .f64 0, .float .f64 0, .float .f64 0] 41 (0, 0))) := hA
      clear hA hB h0 h1 h2 h3 h4 h5
      go_wp2
      all_goals
        refine bodyPost_ret (v := .agg #[.float .f64 c, .float .f64 m, .float .f64 s]) ?_ rfl ⟨c, m, s, rfl, least_end j1 j2 hk hk2 hlt sc, least_end j1 j2 hk hk2 hlt sm, least_end j1 j2 hk hk2 hlt ss, ?_⟩
        · simp [results, Ybad.results5, go_sem, *]
        · exact ((hbel.setCell (Nat.le_refl _) _).setCell (Nat.le_refl _) _).setCell (Nat.le_refl _) _
end Go.Proofs.YbulkdzeiDoor.A
