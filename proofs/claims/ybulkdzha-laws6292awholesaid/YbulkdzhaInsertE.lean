/-
  THE WALK of slices.Insert at []entry: one element, no spare room.
-/
import Derived.Test.YbulkdzhaInsert
namespace Go.Proofs.Ybulkdzha
open Go Go.RowKit

theorem info38' : (Yba.prog.info? 38).map (fun i => (i.zero, i.size, i.bytes)) = some (some (.agg #[.int .i64 0, .int .i64 0, .int .u8 0, .int .u16 0, .int .u16 0, .bool false]), 6, 24) := by kernel_rfl

set_option maxHeartbeats 2000000 in
set_option maxRecDepth 100000 in
theorem insertEntry_end (g n h : Nat) (arr c : Array Value) (w : World) (hn : n ≤ 65536) (hs : arr.size = n * 6) (hc : c.size = 6)
    (hg : w.heap[g]? = some (.cells arr 38 (0, 0))) (hh : w.heap[h]? = some (.cells c 38 (0, 0))) :
    Calls Yba.prog 11 #[.slice (some ⟨g, 0, none⟩) n n, .int .i64 n, .slice (some ⟨h, 0, none⟩) 1 1] w fun e w' => Put 6 38 n n arr c w e w' ∧ Below w.heap.size w w' := by
  obtain ⟨i3, hi3, hz0, hz1, hz2⟩ := info_parts info38'
  have hr := run_append_grow (P := Yba.prog) w 28 28 38 i3 _ Yba.underlying28 hi3 hz0 ⟨g, 0, none⟩ n n arr.toList (by rw [hz1]; simpa using hs) (fun j v hv => by
    rw [Addr.add_lit, Nat.zero_add]; exact cell_heap hg (by simpa using hv)) ⟨h, 0, none⟩ 1 1 c.toList (by rw [hz1]; simpa using hc) (fun j v hv => by
    rw [Addr.add_lit, Nat.zero_add]; exact cell_heap hh (by simpa using hv)) (by omega) (by omega) (growslice_fits (by omega) (by rw [hz2]; omega))
  have HR := Hid.mk hr
  have n0 : (0 : Int) ≤ (n : Int) := by omega
  have hbn : ((n : Int) == (n : Int)) = true := by simp
  clear hr hg hh
  go_enter Yba.func11, Yba.ntmps11
  go_wp2_with (at_builtin; refine Go.Lib.wpList_append_run _ rfl _ _ 28 28 rfl (.slice (some ⟨g, 0, none⟩) n n) (.slice (some ⟨h, 0, none⟩) 1 1) rfl rfl _ _ HR.out ?_)
  go_ret
  refine ⟨⟨w.heap.size, _, _, rfl, Nat.le_refl _, by exact heap_alloc_new w.drew _, ?_, fun j hj => ?_⟩, (Below.refl _ _).drew.alloc (Nat.le_refl _) _⟩
  · simp; omega
  · by_cases h1 : j < n * 6
    · rw [if_pos h1, Array.getElem?_append_left (by omega)]
    · rw [if_neg h1, if_pos (by omega), Array.getElem?_append_right (by omega), Array.getElem?_append_left (by omega), hs]

set_option maxHeartbeats 2000000 in
set_option maxRecDepth 100000 in
theorem insertEntry_mid (g n i h : Nat) (arr c : Array Value) (w : World) (hn : n ≤ 65536) (hin : i < n) (hs : arr.size = n * 6) (hc : c.size = 6) (ha1 : ∀ v ∈ arr.toList, v.oneCell' = true) (hc1 : ∀ v ∈ c.toList, v.oneCell' = true)
    (hg : w.heap[g]? = some (.cells arr 38 (0, 0))) (hh : w.heap[h]? = some (.cells c 38 (0, 0))) :
    Calls Yba.prog 11 #[.slice (some ⟨g, 0, none⟩) n n, .int .i64 i, .slice (some ⟨h, 0, none⟩) 1 1] w fun e w' => Put 6 38 n i arr c w e w' ∧ Below w.heap.size w w' := by
  obtain ⟨i3, hi3, hz0, hz1, hz2⟩ := info_parts info38'
  obtain ⟨m, hm⟩ : ∃ m, i + m = n + 1 := ⟨n + 1 - i, by omega⟩
  have hr := run_append_zeros_grow (P := Yba.prog) w 28 3 28 38 i3 _ .i64 Yba.underlying28 Yba.underlying3 hi3 hz0 (by omega) g i n m (arr.toList.take (i * 6)) (by rw [hz1]; simp; omega) (fun j v hv => by
    rw [Addr.add_lit, Nat.zero_add]
    refine cell_heap hg ?_
    rw [List.getElem?_take] at hv
    split at hv
    · simpa using hv
    · cases hv) (by omega) (by omega) (by unfold maxLen; omega) (by rw [hz2]; omega)
  have hb1 : ((i : Int) == (n : Int)) = false := by simp; omega
  have hb2 : decide ((n : Int) < (n : Int) + 1) = true := decide_eq_true (by omega)
  rw [hm] at hr
  obtain ⟨G, hG⟩ : ∃ G, G = w.heap.size := ⟨_, rfl⟩
  obtain ⟨cap2, hcap2⟩ : ∃ x, x = grownCap w (n + 1) n 38 := ⟨_, rfl⟩
  have hcg : n + 1 ≤ cap2 := by rw [hcap2]; exact grownCap_ge _ _ _ _
  obtain ⟨arr2, w2, hr2, hG2, hs2, hrow2, hb2w, ho2⟩ : ∃ (arr2 : Array Value) (w2 : World), (Builtin.append_ #[28, 3] 28 #[.slice (some ⟨g, 0, none⟩) i n, .int .i64 m]).run Yba.prog w = .ok (.slice (some ⟨G, 0, none⟩) (n + 1) cap2) w2 ∧
      w2.heap[G]? = some (.cells arr2 38 (0, 0)) ∧ (n + 1) * 6 ≤ arr2.size ∧ (∀ j, j < i * 6 → arr2[j]? = arr[j]?) ∧ Below w.heap.size w w2 ∧ w2.heap.size = w.heap.size + 1 := by
    refine ⟨_, _, by rw [hG, hcap2]; exact hr, by rw [hG]; exact heap_alloc_new w.drew _, ?_, fun j hj => ?_, (Below.refl _ _).drew.alloc (Nat.le_refl _) _, by simp⟩
    · rw [← hcap2]
      simp [size_zeroCells, Value.cells]
      omega
    · have hl : (arr.toList.take (i * 6)).toArray.size = i * 6 := by simp; omega
      rw [Array.append_assoc, Array.getElem?_append_left (by omega)]
      simp [hj]
  have hlg := lt_of_heap hg
  have hlh := lt_of_heap hh
  obtain ⟨w3, arr3, hr3, hG3, hs3, hrow3, hk3, hz3, hB3⟩ := copy_at w2 28 28 3 38 i3 G (i * 6) h 0 m 1 1 (cap2 - i) 1 arr2 c 38 (show min 1 m = 1 by omega) Yba.underlying28 hi3 hG2 (fun j v hv => by
    rw [Nat.zero_add]; exact cell_heap (heap_below hb2w hh) hv) (by rw [hz1]; omega) (by rw [hz1, hc]) hc1
  obtain ⟨w4, arr4, hr4, hG4, hs4, hrow4, hk4, hz4, hB4⟩ := copy_at w3.drew 28 28 3 38 i3 G ((i + 1) * 6) g (i * 6) (n - i) (n - i) (n - i) (cap2 - (i + 1)) (n - i) arr3 (arr.extract (i * 6) (n * 6)) 38 (show min (n - i) (n - i) = n - i by omega) Yba.underlying28 hi3 hG3 (fun j v hv => by
    refine cell_heap (w := w3.drew) ((hk3 g (by omega)).trans (heap_below hb2w hg)) ?_
    rw [Array.getElem?_extract] at hv
    split at hv
    · exact hv
    · cases hv) (by rw [hz1]; omega) (by rw [hz1]; simp; omega) (fun v hv => ha1 v (by
      rw [Array.toList_extract, List.extract_eq_take_drop] at hv
      exact List.mem_of_mem_drop (List.mem_of_mem_take hv)))
  have hfin : Put 6 38 n i arr c w (.returned (.slice (some ⟨G, 0, none⟩) (n + 1) cap2)) w4 ∧ Below w.heap.size w w4 := by
    refine ⟨⟨G, cap2, arr4, rfl, by omega, hG4, by omega, fun j hj => ?_⟩, (hb2w.trans (hB3 _ (by omega))).drew.trans (hB4 _ (by omega))⟩
    rw [hrow4, hrow3]
    simp only [hz1]
    by_cases h1 : j < i * 6
    · rw [if_neg (by omega), if_neg (by omega), if_pos h1, hrow2 j h1]
    · by_cases h2 : j < i * 6 + 6
      · rw [if_neg (by omega), if_pos (by omega), if_neg h1, if_pos h2]
      · rw [if_pos (by omega), if_neg h1, if_neg h2, Array.getElem?_extract, if_pos (by omega)]
        congr 1; omega
  have HF := Hid.mk hfin
  have HR2 := Hid.mk hr2
  have hmn : n + 1 - i = m := by omega
  have i0 : (0 : Int) ≤ (i : Int) := by omega
  have i1 : (i : Int) ≤ (n : Int) := by omega
  have i2 : (i : Int) ≤ (n : Int) + 1 := by omega
  have i4 : (i : Int) + 1 ≤ (n : Int) + 1 := by omega
  have i5 : (0 : Int) ≤ (i : Int) + 1 := by omega
  have hwi : IntKind.i64.wrap ((i : Int) + 1) = (i : Int) + 1 := by rw [IntKind.wrap_i64]; omega
  have hti : ((i : Int) + 1).toNat = i + 1 := by omega
  have hce : ¬ (cap2 = i + 1) := by omega
  have hni : ¬ (n = i) := by omega
  have hmi : (n : Int) + 1 - (i : Int) = (m : Int) := by omega
  have hmw : IntKind.i64.wrap (m : Int) = (m : Int) := by rw [IntKind.wrap_i64]; omega
  clear hfin hr2 hr hG2 hs2 hrow2 hb2w ho2 hG3 hs3 hrow3 hk3 hz3 hB3 hG4 hs4 hrow4 hk4 hz4 hB4 hg hh hm hG hcap2
  go_enter Yba.func11, Yba.ntmps11
  go_wp2_with (at_builtin; refine Go.Lib.wpList_append_run _ rfl _ _ 28 3 rfl (.slice (some ⟨g, 0, none⟩) i n) (.int .i64 m) rfl rfl _ _ HR2.out ?_)
  refine wp_region_pick [0, 1, 2, 3, 4, 5, 6, 7] [8] [0, 1, 2, 3, 4, 5, 6, 7] (fun _ => True) (by kernel_rfl) (by kernel_rfl) (fun _ _ d _ _ h => by cases d <;> exact h) trivial ?_
  iterate 8 (refine wpHead_cons (v := ?_) rfl (by rfl) ?_ ?_; rotate_left 1; (focus (intro w0 hS0; go_simp; first | done | with_reducible rfl)); simp only [Act.put, List.setIfInBounds_toArray, List.set_cons_zero, List.set_cons_succ])
  refine wpHead_nil ?_
  refine wpTail_list _ _ _ rfl ?_
  simp only [List.filterMap_cons, List.filterMap_nil, List.getElem?_cons_succ, List.getElem?_cons_zero]
  go_wp2_with fail
  go_ret
  exact HF.out
end Go.Proofs.Ybulkdzha
