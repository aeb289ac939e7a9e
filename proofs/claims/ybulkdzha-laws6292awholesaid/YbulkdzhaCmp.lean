/-
  THE WALK of Compare at the identifiers of two numbers.
-/
import Derived.Test.YbulkdzhaTop
namespace Go.Proofs.Ybulkdzha
open Go Go.RowKit
attribute [local go_sem ↓] loadAt25 storeAt25
attribute [local go_sem] run_load25 run_store25 run_eq25 guard25 has20_drew has20_drewN row20_drew row20_drewN soft_drew soft_drewN has20_alloc row20_alloc has20_new row20_new soft_alloc soft_new put20_new put20_drew

theorem u64_mid (v g n cp : Nat) (w : World) (hg : w.heap[g]? = some (.cells (idv v) 30 (0, 0))) (hn : 8 ≤ n) :
    Calls Yba.prog 18 #[.agg #[], .slice (some ⟨g, 8, none⟩) n cp] w fun e w' => e = .returned (.int .u64 0) ∧ Below w.heap.size w w' :=
  u64_low g 8 n cp 0 0 w hn (by omega) (by omega) (by omega) (by omega) (cell_heap hg rfl) (cell_heap hg rfl) (cell_heap hg rfl) (cell_heap hg rfl) (cell_heap hg rfl) (cell_heap hg rfl) (cell_heap hg rfl) (cell_heap hg rfl)
theorem u32_end (v g n cp : Nat) (w : World) (hg : w.heap[g]? = some (.cells (idv v) 30 (0, 0))) (hn : 4 ≤ n) :
    Calls Yba.prog 21 #[.agg #[], .slice (some ⟨g, 16, none⟩) n cp] w fun e w' => e = .returned (.int .u32 ((v % 65536 : Nat) : Int)) ∧ Below w.heap.size w w' := by
  have h := u32_low g 16 n cp ((v : Int) / 256 % 256) ((v : Int) % 256) w hn (by omega) (by omega) (by omega) (by omega) (cell_heap hg rfl) (cell_heap hg rfl) (cell_heap hg rfl) (cell_heap hg rfl)
  rw [idv_last] at h
  exact h
theorem cmp64_any (x y : Int) (w : World) : Calls Yba.prog 19 #[.int .u64 x, .int .u64 y] w fun e w' => (∃ r : Int, e = .returned (.int .i64 r) ∧ (r < 0 ↔ x < y)) ∧ w' = w := by
  by_cases h : x < y
  · go_enter Yba.func19, Yba.ntmps19
    go_wp2
    all_goals
      go_ret
      exact ⟨⟨_, rfl, by omega⟩, rfl⟩
  · go_enter Yba.func19, Yba.ntmps19
    go_wp2
    all_goals
      go_ret
      exact ⟨⟨_, rfl, by omega⟩, rfl⟩
theorem cmp32_any (x y : Int) (w : World) : Calls Yba.prog 20 #[.int .u32 x, .int .u32 y] w fun e w' => (∃ r : Int, e = .returned (.int .i64 r) ∧ (r < 0 ↔ x < y)) ∧ w' = w := by
  by_cases h : x < y
  · go_enter Yba.func20, Yba.ntmps20
    go_wp2
    all_goals
      go_ret
      exact ⟨⟨_, rfl, by omega⟩, rfl⟩
  · go_enter Yba.func20, Yba.ntmps20
    go_wp2
    all_goals
      go_ret
      exact ⟨⟨_, rfl, by omega⟩, rfl⟩

set_option maxHeartbeats 1000000 in
theorem compare_any (v u : Nat) (hv : v < 4294967296) (hu : u < 4294967296) (w : World) :
    Calls Yba.prog 13 #[.agg (idv v), .agg (idv u)] w fun e w' => (∃ r : Int, e = .returned (.int .i64 r) ∧ (r < 0 ↔ v < u)) ∧ Below w.heap.size w w' := by
  have hc := idv_isId v hv
  have hd := idv_isId u hu
  have hcs := hc.1
  have hds := hd.1
  go_enter Yba.func13, Yba.ntmps13
  go_wp2
  refine wp_region_pick [0, 2] [1, 3, 4, 5] [0, 1, 2] (fun w' => w'.heap[w.heap.size]? = some (.cells (idv v) 30 (0, 0)) ∧ w'.heap[w.heap.size + 1]? = some (.cells (idv u) 30 (0, 0))) (by kernel_rfl) (by kernel_rfl) (fun _ _ d _ _ h => by cases d <;> exact h) ⟨heap_alloc1 _ _ _, heap_alloc2 _ _ _⟩ ?_
  iterate 2 (refine wpHead_cons (v := ?_) rfl (by rfl) ?_ ?_; rotate_left 1; (focus (intro w0 hS0; have q1 := whole_has hS0.1 hc; have q2 := whole_row hS0.1 hc; have q3 := whole_has hS0.2 hd; have q4 := whole_row hS0.2 hd; clear hS0; go_simp; first | done | with_reducible rfl)); simp only [Act.put, List.setIfInBounds_toArray, List.set_cons_zero, List.set_cons_succ])
  refine wpHead_nil ?_
  refine wpTail_keep rfl (by rfl) (fun K hK => ?_)
  go_simp
  refine (top_any v hv _).mono ?_
  rintro e w1 ⟨rfl, hb1⟩
  obtain ⟨r1, hr1⟩ : ∃ r : Nat, v / 65536 = r := ⟨_, rfl⟩
  rw [hr1]
  have hA1 : w1.heap[w.heap.size]? = some (.cells (idv v) 30 (0, 0)) := heap_below hb1 (by exact heap_alloc1 _ _ _)
  have hB1 : w1.heap[w.heap.size + 1]? = some (.cells (idv u) 30 (0, 0)) := heap_below hb1 (by exact heap_alloc2 _ _ _)
  have hbel1 : Below w.heap.size w w1 := (((Below.refl _ _).alloc (Nat.le_refl _) _).alloc (by simp) _).drew.trans (hb1.mono (by simp; omega))
  refine hK.out _ _ ⟨hA1, hB1⟩ ?_
  clear hK K hb1
  refine wpTail_list _ _ _ rfl ?_
  simp only [List.filterMap_cons, List.filterMap_nil, List.getElem?_cons_succ, List.getElem?_cons_zero]
  have HA1 := Hid.mk hA1
  have HB1 := Hid.mk hB1
  clear hA1 hB1
  go_wp2_with fail
  refine (top_any u hu _).mono ?_
  rintro e w2 ⟨rfl, hb2⟩
  obtain ⟨r2, hr2⟩ : ∃ r : Nat, u / 65536 = r := ⟨_, rfl⟩
  rw [hr2]
  have HR1 := Hid.mk hr1
  have HR2 := Hid.mk hr2
  clear hr1 hr2
  have HA2 : Hid (w2.heap[w.heap.size]? = some (.cells (idv v) 30 (0, 0))) := heap_below hb2 HA1.out
  have HB2 : Hid (w2.heap[w.heap.size + 1]? = some (.cells (idv u) 30 (0, 0))) := heap_below hb2 HB1.out
  have hbel2 : Below w.heap.size w w2 := hbel1.trans (hb2.mono hbel1.size)
  clear hb2 HA1 HB1 hbel1 w1
  by_cases hr : r1 = r2
  · have hrb : ((r1 : Int) != (r2 : Int)) = false := by simp [hr]
    have HR := Hid.mk hr
    clear hr
    go_wp2_with fail
    refine wp_region_pick [0, 1, 3, 4] [2, 5, 6, 7] [0, 1, 2, 3, 4] (fun _ => True) (by kernel_rfl) (by kernel_rfl) (fun _ _ d _ _ h => by cases d <;> exact h) trivial ?_
    iterate 4 (refine wpHead_cons (v := ?_) rfl (by rfl) ?_ ?_; rotate_left 1; (focus (intro w0 hS0; go_simp; first | done | with_reducible rfl)); simp only [Act.put, List.setIfInBounds_toArray, List.set_cons_zero, List.set_cons_succ])
    refine wpHead_nil ?_
    refine wpTail_keep rfl (by rfl) (fun K hK => ?_)
    go_simp
    refine (u64_mid v w.heap.size _ _ _ (by exact HA2.out) (by omega)).mono ?_
    rintro e w3 ⟨rfl, hb3⟩
    have HA3 : Hid (w3.heap[w.heap.size]? = some (.cells (idv v) 30 (0, 0))) := heap_below hb3 HA2.out
    have HB3 : Hid (w3.heap[w.heap.size + 1]? = some (.cells (idv u) 30 (0, 0))) := heap_below hb3 HB2.out
    have hbel3 : Below w.heap.size w w3 := hbel2.drew.trans (hb3.mono hbel2.size)
    refine hK.out _ _ trivial ?_
    clear hK K hb3 HA2 HB2 hbel2
    refine wpTail_list _ _ _ rfl ?_
    simp only [List.filterMap_cons, List.filterMap_nil, List.getElem?_cons_succ, List.getElem?_cons_zero]
    go_wp2_with fail
    refine (u64_mid u (w.heap.size + 1) _ _ _ (by exact HB3.out) (by omega)).mono ?_
    rintro e w4 ⟨rfl, hb4⟩
    have HA4 : Hid (w4.heap[w.heap.size]? = some (.cells (idv v) 30 (0, 0))) := heap_below hb4 HA3.out
    have HB4 : Hid (w4.heap[w.heap.size + 1]? = some (.cells (idv u) 30 (0, 0))) := heap_below hb4 HB3.out
    have hbel4 : Below w.heap.size w w4 := hbel3.trans (hb4.mono hbel3.size)
    clear hb4 HA3 HB3 hbel3 w3 w2
    go_wp2_with fail
    refine wp_region_pick [0, 1, 3, 4] [2, 5, 6, 7] [0, 1, 2, 3, 4] (fun _ => True) (by kernel_rfl) (by kernel_rfl) (fun _ _ d _ _ h => by cases d <;> exact h) trivial ?_
    iterate 4 (refine wpHead_cons (v := ?_) rfl (by rfl) ?_ ?_; rotate_left 1; (focus (intro w0 hS0; go_simp; first | done | with_reducible rfl)); simp only [Act.put, List.setIfInBounds_toArray, List.set_cons_zero, List.set_cons_succ])
    refine wpHead_nil ?_
    refine wpTail_keep rfl (by rfl) (fun K hK => ?_)
    go_simp
    refine (u32_end v w.heap.size _ _ _ (by exact HA4.out) (by omega)).mono ?_
    rintro e w5 ⟨rfl, hb5⟩
    have HB5 : Hid (w5.heap[w.heap.size + 1]? = some (.cells (idv u) 30 (0, 0))) := heap_below hb5 HB4.out
    have hbel5 : Below w.heap.size w w5 := hbel4.drew.trans (hb5.mono hbel4.size)
    refine hK.out _ _ trivial ?_
    clear hK K hb5 HA4 HB4 hbel4
    refine wpTail_list _ _ _ rfl ?_
    simp only [List.filterMap_cons, List.filterMap_nil, List.getElem?_cons_succ, List.getElem?_cons_zero]
    go_wp2_with fail
    refine (u32_end u (w.heap.size + 1) _ _ _ (by exact HB5.out) (by omega)).mono ?_
    rintro e w6 ⟨rfl, hb6⟩
    have hbel6 : Below w.heap.size w w6 := hbel5.trans (hb6.mono hbel5.size)
    clear hb6 HB5 hbel5
    go_wp2_with (go_at_call 20; refine (cmp32_any _ _ _).mono ?_; rintro e w' ⟨⟨r, rfl, hrr⟩, rfl⟩)
    go_ret
    refine ⟨⟨r, rfl, hrr.trans ?_⟩, hbel6⟩
    have h1 := HR1.out
    have h2 := HR2.out
    have h3 := HR.out
    omega
  · have hrb : ((r1 : Int) != (r2 : Int)) = true := by simp; omega
    have HR := Hid.mk hr
    clear hr
    go_wp2_with (go_at_call 19; refine (cmp64_any _ _ _).mono ?_; rintro e w' ⟨⟨r, rfl, hrr⟩, rfl⟩)
    go_ret
    refine ⟨⟨r, rfl, hrr.trans ?_⟩, hbel2⟩
    have h1 := HR1.out
    have h2 := HR2.out
    have h3 := HR.out
    omega

end Go.Proofs.Ybulkdzha
