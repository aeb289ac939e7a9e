/-
  THE WALK of LawS6287AWhole.
-/
import Derived.Test.YbulkdzeiDoorPartsA
import Derived.Deep.DeepCutAuto
import Derived.Deep.CutBlock
namespace Go.Proofs.YbulkdzeiDoor.A
open Go Go.RowKit

theorem info28 : (Ybad.prog.info? 28).map (fun i => (i.zero, i.size, i.bytes)) = some (some (.agg #[.float .f64 0, .float .f64 0, .float .f64 0, .int .i64 0, .int .i64 0]), 5, 40) := by kernel_rfl

/-- What the law is told of a slice of floats that came in. -/
def IsFs (w : World) (a : Option Addr) (len : Nat) (C : Nat → Nat) : Prop :=
  ∀ i, i < len → ∃ b off, a = some ⟨b, off, none⟩ ∧ w.cell? ⟨b, off + i, none⟩ = some (.float .f64 (C i)) ∧ C i < 18446744073709551616

theorem Hid.mk {p : Prop} (h : p) : Hid p := h
attribute [local go_sem ↓] run_fadd
attribute [local go_sem] run_store_float setCell_drewN alloc_drewN

set_option maxRecDepth 100000 in
set_option maxHeartbeats 1000000 in
theorem law_walk (a0 a1 : Option Addr) (l0 c0 l1 c1 R : Nat) (C M : Nat → Nat) (w : World) (h0 : IsFs w a0 l0 C) (h1 : IsFs w a1 l1 M) (hl0 : l0 ≤ 1048576) (hl1 : l1 ≤ 1048576) (hR : R ≤ 1099511627776)
    (u0 : w.cell? ⟨0, 0, none⟩ = some (.float .f64 9218868437227405312)) (u1 : w.cell? ⟨0, 1, none⟩ = some (.float .f64 9218868437227405312)) (u2 : w.cell? ⟨0, 2, none⟩ = some (.float .f64 9218868437227405312)) :
    Calls Ybad.prog 3 #[.slice a0 l0 c0, .slice a1 l1 c1, .int .i64 R] w fun e w' => e = .returned (.bool true) ∧ Below w.heap.size w w' := by
  obtain ⟨i0, hi, hz0, hz1, hz2⟩ := info_parts info28
  obtain ⟨n, hn0, hn1, hn⟩ : ∃ n, n ≤ l0 ∧ n ≤ l1 ∧ (n = l0 ∨ n = l1) := by
    rcases Nat.le_total l0 l1 with h | h
    · exact ⟨l0, by omega, by omega, Or.inl rfl⟩
    · exact ⟨l1, by omega, by omega, Or.inr rfl⟩
  go_enter Ybad.func3, Ybad.ntmps3
  go_upto_if 39 with fail
  go_cut [7] (fun s wx => s = .int .i64 (n : Int) ∧ w = wx)
  case first =>
    by_cases hlt : l1 < l0
    · go_wp2
      go_meet
      case rel => exact ⟨by have : n = l1 := by omega
                            rw [this], rfl⟩
    · go_wp2
      go_meet
      case rel => exact ⟨by have : n = l0 := by omega
                            rw [this], rfl⟩
  case rest =>
    obtain ⟨rfl, rfl⟩ := hcut
    go_wp2_with (at_make; refine wpList_make_block _ rfl _ _ 23 rfl 28 i0 _ 5 Ybad.underlying23 hi hz0 hz1 n n rfl rfl (Nat.le_refl _) (by rw [hz2]; omega) (by unfold maxLen; omega) ?_; intro w1 hA1 hb1 hs1)
    go_loopw [9] (fun i wr => ∃ (k : Nat) (arr : Array Value), k ≤ n ∧ i = .int .i64 (k : Int) ∧ wr.heap[w.heap.size]? = some (.cells arr 28 (0, 0)) ∧ Filled arr n k C M ∧ Below w.heap.size w wr ∧ wr.heap.size = w.heap.size + 1) (fun i _ => n - (intOf i).toNat)
    case atStart => exact ⟨0, _, Nat.zero_le _, rfl, hA1, filled_start n C M, hb1, hs1⟩
    case round =>
      obtain ⟨k, arr, hk, rfl, hA, hF, hbel, hsz⟩ := hrel
      by_cases hlt : k < n
      · obtain ⟨b, off, rfl, hc0, hC⟩ := h0 k (by omega)
        obtain ⟨b', off', rfl, hc1, hM⟩ := h1 k (by omega)
        have e0 : wr.cell? ⟨b, off + k, none⟩ = some (.float .f64 (C k)) := (hbel.cell (p := ⟨b, off + k, none⟩) (lt_of_cell? hc0)).trans hc0
        have e1 : wr.cell? ⟨b', off' + k, none⟩ = some (.float .f64 (M k)) := (hbel.cell (p := ⟨b', off' + k, none⟩) (lt_of_cell? hc1)).trans hc1
        have hk0 : (0 : Int) ≤ (k : Int) := by omega
        have hk1 : (k : Int) < (n : Int) := by omega
        have hk2 : (k : Int) < (l0 : Int) := by omega
        have hk3 : (k : Int) < (l1 : Int) := by omega
        have hF' := hF
        obtain ⟨hsize, _, _⟩ := hF'
        obtain ⟨v0, q0⟩ : ∃ v, arr[k * 5]? = some v := ⟨_, Array.getElem?_eq_getElem (by omega)⟩
        obtain ⟨v1, q1⟩ : ∃ v, arr[k * 5 + 1]? = some v := ⟨_, Array.getElem?_eq_getElem (by omega)⟩
        obtain ⟨v2, q2⟩ : ∃ v, arr[k * 5 + 2]? = some v := ⟨_, Array.getElem?_eq_getElem (by omega)⟩
        obtain ⟨v3, q3⟩ : ∃ v, arr[k * 5 + 3]? = some v := ⟨_, Array.getElem?_eq_getElem (by omega)⟩
        obtain ⟨v4, q4⟩ : ∃ v, arr[k * 5 + 4]? = some v := ⟨_, Array.getElem?_eq_getElem (by omega)⟩
        have d0 : wr.cell? ⟨w.heap.size, k * 5, none⟩ = some v0 := by simp [World.cell?, hA, q0]
        have d1 : wr.cell? ⟨w.heap.size, k * 5 + 1, none⟩ = some v1 := by simp [World.cell?, hA, q1]
        have d2 : wr.cell? ⟨w.heap.size, k * 5 + 2, none⟩ = some v2 := by simp [World.cell?, hA, q2]
        have d3 : wr.cell? ⟨w.heap.size, k * 5 + 3, none⟩ = some v3 := by simp [World.cell?, hA, q3]
        have d4 : wr.cell? ⟨w.heap.size, k * 5 + 4, none⟩ = some v4 := by simp [World.cell?, hA, q4]
        have hfz : ∀ o, wr.frozen? ⟨w.heap.size, o, none⟩ = false := by intro o; simp [World.frozen?, hA]
        have HA : Hid (wr.heap[w.heap.size]? = some (.cells arr 28 (0, 0))) := hA
        have HS : Hid (wr.heap.size = w.heap.size + 1) := hsz
        clear hA h0 h1 u0 u1 u2 hA1 hb1 hs1 q0 q1 q2 q3 q4 hsz
        go_wp2
        refine wp_region_held_tail 18 18 (fun w' => w'.cell? ⟨b, off + k, none⟩ = some (.float .f64 (C k)) ∧ w'.cell? ⟨b', off' + k, none⟩ = some (.float .f64 (M k)))
          (by kernel_rfl) (by kernel_rfl) (fun _ _ d _ _ h => by cases d <;> exact h) ⟨e0, e1⟩ ?_
        simp only [List.take_succ_cons, List.take_zero, List.drop_succ_cons, List.drop_zero]
        iterate 18 (refine wpHeld_cons (v := ?_) (by rfl) ?_ ?_; rotate_left 1; (focus (intro w0 hS0; go_simp; first | done | with_reducible rfl)); simp only [Act.put, List.setIfInBounds_toArray, List.set_cons_zero, List.set_cons_succ])
        refine wpHeld_nil ?_
        refine wpSeqS_zero ?_
        go_wp2
        go_roundw
        case rel => exact ⟨k + 1, _, by omega, by go_num, set5 HA.out _ _ _ _ _ _, filled_step hF hlt _ _, (below_set5 hbel (Nat.le_refl _) _ _ _ _ _ _).drew, by simpa [World.setCell] using HS.out⟩
        case measure => simp [intOf]; omega
      · obtain rfl : k = n := by omega
        clear hA1 hb1 hs1 hlt hk
        obtain ⟨hsize, hone, hrow⟩ := hF
        go_wp2_with (at_make; refine wpList_make_block _ rfl _ _ 23 rfl 28 i0 _ 5 Ybad.underlying23 hi hz0 hz1 k k rfl rfl (Nat.le_refl _) (by rw [hz2]; omega) (by unfold maxLen; omega) ?_; intro w2 hA2 hb2 hs2; rw [hsz] at hA2 hb2 hs2; obtain ⟨w3, hcp, hA3, hk3, hs3, hb3⟩ := copy_full w2 23 23 3 28 i0 (w.heap.size + 1) w.heap.size k k k _ arr 28 Ybad.underlying23 hi hA2 ((hb2.block _ (by omega)).trans hA) (by rw [hz1]; exact size_madeCells _ _) (by rw [hz1]; exact hsize) hone; have hL3 := (hk3 w.heap.size (by omega)).trans ((hb2.block _ (by omega)).trans hA); have hb3' := (hbel.trans (hb2.mono (by omega))).trans (hb3 w.heap.size (by omega)); have HA3 := Hid.mk hA3; have HL3 := Hid.mk hL3; have hs3' : w3.heap.size = w.heap.size + 1 + 1 := hs3.trans hs2; clear hk3 hA2 hb2 hs2 hA3 hL3 hb3 hs3 hA)
        -- PART 2
        have b0 := lt_of_cell? u0
        have x0 := (hb3'.cell (p := ⟨0, 0, none⟩) b0).trans u0
        have x1 := (hb3'.cell (p := ⟨0, 1, none⟩) b0).trans u1
        have x2 := (hb3'.cell (p := ⟨0, 2, none⟩) b0).trans u2
        have hjobs := jobs_of (C := C) (M := M) HL3.out ⟨hsize, hone, hrow⟩ (fun i hi => by obtain ⟨_, _, _, _, h⟩ := h0 i (by omega); exact h) (fun i hi => by obtain ⟨_, _, _, _, h⟩ := h1 i (by omega); exact h) x0 x1 x2
        rw [hs3'] at hjobs
        refine (run_any _ (w.heap.size + 1 + 1) w.heap.size k R C M hjobs (by omega) hR).mono ?_
        rintro e w5 ⟨c, m, s, rfl, sc, sm, ss, hb5⟩
        clear hjobs x0 x1 x2 u0 u1 u2 hcp w2
        have hz5 : w.heap.size + 1 + 1 < w5.heap.size := by have := hb5.size; simp at this; omega
        have hL5 : w5.heap[w.heap.size]? = some (.cells arr 28 (0, 0)) := (hb5.block _ (by simp; omega)).trans ((Below.heap_alloc _ _ _ (by omega)).trans HL3.out)
        have hA5 : w5.heap[w.heap.size + 1]? = some (.cells arr 28 (0, 0)) := (hb5.block _ (by simp; omega)).trans ((Below.heap_alloc _ _ _ (by omega)).trans HA3.out)
        have hP5 : w5.heap[w.heap.size + 1 + 1]? = some (.cells (pkCells w.heap.size k) 39 (0, 0)) := (hb5.block _ (by simp; omega)).trans (by rw [← hs3']; exact heap_alloc_new _ _)
        have hbel5 : Below w.heap.size w w5 := (hb3'.alloc (by omega) _).trans (hb5.mono (by simp; omega))
        have HL := Hid.mk hL5
        have HB := Hid.mk hA5
        have HP := Hid.mk hP5
        have HROW := Hid.mk hrow
        have HSZ := Hid.mk hsize
        obtain ⟨G, hG⟩ : ∃ G, w5.heap.size = G := ⟨_, rfl⟩
        clear hb5 hb3' HA3 HL3 hs3' w3 hL5 hA5 hP5 hsz hbel wr w1 hrow hsize hone hi hz0 hz1 hz2
        go_wp2_with (go_at_call 6; refine (inf_any _).mono ?_; rintro e w' ⟨rfl, rfl⟩)
        go_loopw [13, 14, 15, 18] (fun t13 t14 t15 t18 wr => ∃ (j q a b t : Nat), j ≤ R * 8 + q ∧ R * 8 + q ≤ j ∧ q ≤ 8 ∧ (1 ≤ q → j ≤ k) ∧ t18 = .int .i64 (j : Int) ∧ t13 = .float .f64 a ∧ t14 = .float .f64 b ∧ t15 = .float .f64 t ∧
            Sim a (least C (R * 8) q) ∧ Sim b (least M (R * 8) q) ∧ Sim t (least (fun i => sumc (C i) (M i)) (R * 8) q) ∧ Below (G + 1) (w5.alloc (.cells #[.float .f64 c, .float .f64 m, .float .f64 s] 41)) wr) (fun _ _ _ t18 _ => (R * 8 + 8 - intOf t18).toNat)
        case atStart => exact ⟨R * 8, 0, inf, inf, inf, by omega, by omega, by omega, by omega, by go_num, rfl, rfl, rfl, sim_inf, sim_inf, sim_inf, Below.refl _ _⟩
        case round =>
          obtain ⟨j, q, a, b, t, j1, j2, hq, hq2, rfl, rfl, rfl, rfl, sa, sb, st, hbr⟩ := hrel
          by_cases hlt : q < 8 ∧ j < k
          · obtain ⟨hq8, hjk⟩ := hlt
            have h0' := h0
            have h1' := h1
            obtain ⟨bb, off, rfl, hc0, hC⟩ := h0' j (by omega)
            obtain ⟨bb', off', rfl, hc1, hM⟩ := h1' j (by omega)
            have old : ∀ {p : Addr} {v : Value}, w.cell? p = some v → wr.cell? p = some v := fun {p v} h => by
              have hp := World.block_lt_of_cell? w p h
              rw [hbr.cell (by omega), ← h]
              exact ((hbel5.alloc (by omega) _).cell hp)
            have e0 := old hc0
            have e1 := old hc1
            have hk0 : (0 : Int) ≤ (j : Int) := by omega
            have hk1 : (j : Int) < (k : Int) := by omega
            have hk2 : (j : Int) < (l0 : Int) := by omega
            have hk3 : (j : Int) < (l1 : Int) := by omega
            have hk4 : (j : Int) < (R : Int) * 8 + 8 := by omega
            clear h0 h1 h0' h1' old hc0 hc1
            go_wp2_with (go_at_call 7; refine (zmin_any _ _ _).mono ?_; rintro e w' ⟨rfl, rfl⟩)
            refine wp_region_held_tail 9 10 (fun w' => w'.cell? ⟨bb, off + j, none⟩ = some (.float .f64 (C j)) ∧ w'.cell? ⟨bb', off' + j, none⟩ = some (.float .f64 (M j)))
              (by kernel_rfl) (by kernel_rfl) (fun _ _ d _ _ h => by cases d <;> exact h) ⟨e0, e1⟩ ?_
            simp only [List.take_succ_cons, List.take_zero, List.drop_succ_cons, List.drop_zero]
            iterate 9 (refine wpHeld_cons (v := ?_) (by rfl) ?_ ?_; rotate_left 1; (focus (intro w0 hS0; go_simp; first | done | with_reducible rfl)); simp only [Act.put, List.setIfInBounds_toArray, List.set_cons_zero, List.set_cons_succ])
            refine wpHeld_nil ?_
            refine wpSeqS_step (k := 0) (by rfl) (fun K hK => ?_)
            go_simp
            refine hK.out _ _ ⟨by exact e0, by exact e1⟩ ?_
            clear hK K
            refine wpSeqS_zero ?_
            go_wp2_with (go_at_call 7; refine (zmin_any _ _ _).mono ?_; rintro e w' ⟨rfl, rfl⟩)
            go_roundw
            case rel => exact ⟨j + 1, q + 1, _, _, _, by omega, by omega, by omega, fun _ => by omega, by go_num, rfl, rfl, rfl, zstep j1 j2 sa (Or.inr ⟨rfl, hC⟩), zstep j1 j2 sb (Or.inr ⟨rfl, hM⟩), zstep (X := fun i => sumc (C i) (M i)) j1 j2 st (addV_R _ _ _).sim, below_drewN hbr _⟩
            case measure => simp [intOf]; omega
          · obtain ⟨wv, rfl⟩ : ∃ x, x = wr := ⟨wr, rfl⟩
            have fa := sc.trans (least_end j1 j2 hq hq2 hlt sa).symm
            have fb := sm.trans (least_end j1 j2 hq hq2 hlt sb).symm
            have ft := ss.trans (least_end j1 j2 hq hq2 hlt st).symm
            have hwr : G + 1 ≤ wv.heap.size := by have := hbr.size; simp at this; omega
            have gG : wv.heap[G]? = some (.cells #[.float .f64 c, .float .f64 m, .float .f64 s] 41 (0, 0)) := (hbr.block G (by omega)).trans (by rw [← hG]; exact heap_alloc_new _ _)
            have gL : wv.heap[w.heap.size]? = some (.cells arr 28 (0, 0)) := (hbr.block _ (by omega)).trans ((Below.heap_alloc _ _ _ (by omega)).trans HL.out)
            have gB : wv.heap[w.heap.size + 1]? = some (.cells arr 28 (0, 0)) := (hbr.block _ (by omega)).trans ((Below.heap_alloc _ _ _ (by omega)).trans HB.out)
            have gP : wv.heap[w.heap.size + 1 + 1]? = some (.cells (pkCells w.heap.size k) 39 (0, 0)) := (hbr.block _ (by omega)).trans ((Below.heap_alloc _ _ _ (by omega)).trans HP.out)
            have hbr' : Below w.heap.size w wv := (hbel5.alloc (by omega) _).trans (hbr.mono (by omega))
            have k0 : wv.cell? ⟨G, 0, none⟩ = some (.float .f64 c) := cell_heap gG rfl
            have k1 : wv.cell? ⟨G, 1, none⟩ = some (.float .f64 m) := cell_heap gG rfl
            have k2 : wv.cell? ⟨G, 2, none⟩ = some (.float .f64 s) := cell_heap gG rfl
            have k3 : wv.cell? ⟨w.heap.size + 1 + 1, 3, none⟩ = some (.slice (some ⟨w.heap.size, 0, none⟩) k k) := cell_heap gP rfl
            have k4 : wv.cell? ⟨w.heap.size + 1 + 1, 4, none⟩ = some (.int .i64 k) := cell_heap gP rfl
            have GL := Hid.mk gL
            have GB := Hid.mk gB
            have GP := Hid.mk gP
            clear gG gL gB gP sa sb st sc sm ss h0 h1 hbr hbel5 HL HB HP
            have hj9 : (j : Int) < (R : Int) * 8 + 8 → (k : Int) ≤ (j : Int) := by omega
            by_cases hj8 : (j : Int) < (R : Int) * 8 + 8
            all_goals
              go_wp2_with (go_at_call 8; refine (same_sim _ _ (by assumption) _).mono ?_; rintro e w' ⟨rfl, hw'⟩; subst w')
              go_loopw [19] (fun i wq => ∃ y : Nat, y ≤ k ∧ i = .int .i64 (y : Int) ∧ Below wv.heap.size wv wq) (fun i _ => k - (intOf i).toNat)
              case atStart => exact ⟨0, Nat.zero_le _, rfl, Below.refl _ _⟩
              case round =>
                obtain ⟨y, hy, rfl, hby⟩ := hrel
                by_cases hyk : y < k
                · obtain ⟨p0, p1, ⟨f, p2⟩, p3, ⟨l, p4⟩⟩ := HROW.out y hyk
                  have q3 := cell_below hby k3
                  have x0 := cell_below hby (cell_heap GL.out p0)
                  have x1 := cell_below hby (cell_heap GL.out p1)
                  have x2 := cell_below hby (cell_heap GL.out p2)
                  have x3 := cell_below hby (cell_heap GL.out p3)
                  have x4 := cell_below hby (cell_heap GL.out p4)
                  have z0 := cell_below hby (cell_heap GB.out p0)
                  have z1 := cell_below hby (cell_heap GB.out p1)
                  have z2 := cell_below hby (cell_heap GB.out p2)
                  have z3 := cell_below hby (cell_heap GB.out p3)
                  have z4 := cell_below hby (cell_heap GB.out p4)
                  have y0 : (0 : Int) ≤ (y : Int) := by omega
                  have y1 : (y : Int) < (k : Int) := by omega
                  clear k0 k1 k2 k3 k4 p0 p1 p2 p3 p4
                  go_wp2
                  refine wp_region_held_tail 11 11 (fun w' => w'.cell? ⟨w.heap.size + 1 + 1, 3, none⟩ = some (.slice (some ⟨w.heap.size, 0, none⟩) k k) ∧
                    w'.cell? ⟨w.heap.size, y * 5, none⟩ = some (.float .f64 (C y)) ∧ w'.cell? ⟨w.heap.size, y * 5 + 1, none⟩ = some (.float .f64 (M y)) ∧ w'.cell? ⟨w.heap.size, y * 5 + 2, none⟩ = some (.float .f64 f) ∧ w'.cell? ⟨w.heap.size, y * 5 + 3, none⟩ = some (.int .i64 y) ∧ w'.cell? ⟨w.heap.size, y * 5 + 4, none⟩ = some (.int .i64 l) ∧
                    w'.cell? ⟨w.heap.size + 1, y * 5, none⟩ = some (.float .f64 (C y)) ∧ w'.cell? ⟨w.heap.size + 1, y * 5 + 1, none⟩ = some (.float .f64 (M y)) ∧ w'.cell? ⟨w.heap.size + 1, y * 5 + 2, none⟩ = some (.float .f64 f) ∧ w'.cell? ⟨w.heap.size + 1, y * 5 + 3, none⟩ = some (.int .i64 y) ∧ w'.cell? ⟨w.heap.size + 1, y * 5 + 4, none⟩ = some (.int .i64 l))
                    (by kernel_rfl) (by kernel_rfl) (fun _ _ d _ _ h => by cases d <;> exact h) ⟨q3, x0, x1, x2, x3, x4, z0, z1, z2, z3, z4⟩ ?_
                  simp only [List.take_succ_cons, List.take_zero, List.drop_succ_cons, List.drop_zero]
                  iterate 11 (refine wpHeld_cons (v := ?_) (by rfl) ?_ ?_; rotate_left 1; (focus (intro w0 hS0; go_simp; first | done | with_reducible rfl)); simp only [Act.put, List.setIfInBounds_toArray, List.set_cons_zero, List.set_cons_succ])
                  refine wpHeld_nil ?_
                  refine wpSeqS_zero ?_
                  go_wp2_with (go_at_call 9; refine (samelisted_any _ _ _ _ _ _).mono ?_; rintro e w9 ⟨rfl, hb9⟩)
                  go_roundw
                  case rel => exact ⟨y + 1, by omega, by go_num, hby.drew.trans (hb9.mono hby.size)⟩
                  case measure => simp [intOf]; omega
                · go_wp2
                  go_ret
                  exact ⟨rfl, hbr'.trans (hby.mono hbr'.size)⟩

set_option maxRecDepth 100000 in
set_option maxHeartbeats 1000000 in
/-- The early ways out. -/
theorem law_early (a0 a1 : Option Addr) (l0 c0 l1 c1 : Nat) (r : Int) (w : World) (m0 : l0 ≤ maxLen) (m1 : l1 ≤ maxLen) (h : 1048576 < l0 ∨ 1048576 < l1 ∨ r < 0 ∨ 1099511627776 < r) :
    Calls Ybad.prog 3 #[.slice a0 l0 c0, .slice a1 l1 c1, .int .i64 r] w fun e w' => e = .returned (.bool true) ∧ Below w.heap.size w w' := by
  unfold maxLen at m0 m1
  by_cases h1 : 1048576 < l0
  · go_enter Ybad.func3, Ybad.ntmps3
    go_wp2
    go_ret
    exact ⟨rfl, Below.refl _ _⟩
  · by_cases h2 : 1048576 < l1
    · go_enter Ybad.func3, Ybad.ntmps3
      go_wp2
      go_ret
      exact ⟨rfl, Below.refl _ _⟩
    · by_cases h3 : r < 0
      · go_enter Ybad.func3, Ybad.ntmps3
        go_wp2
        go_ret
        exact ⟨rfl, Below.refl _ _⟩
      · have h4 : 1099511627776 < r := by omega
        clear h
        go_enter Ybad.func3, Ybad.ntmps3
        go_wp2
        go_ret
        exact ⟨rfl, Below.refl _ _⟩
end Go.Proofs.YbulkdzeiDoor.A
