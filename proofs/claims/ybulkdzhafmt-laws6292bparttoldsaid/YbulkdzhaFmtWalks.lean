/-
  THE WALKS of LawS6292BPart: the small functions.
-/
import Derived.Test.YbulkdzhaFmtRows
import Derived.Test.YbulkdzhaFmtPick
import Derived.Test.YbulkdzhaFmtId
import Derived.WalkKit
import Derived.WalkSpells
import Derived.WalkLawsBesides
import Derived.BigQuiet
import Derived.Deep.QuietTactic
namespace Go.Proofs.YbulkdzhaFmt
open Go Go.RowKit

set_option maxHeartbeats 400000 in
theorem less_any (c d : Array Value) (hc : IsId c) (hd : IsId d) (w : World) :
    Calls Ybaf.prog 4 #[.agg c, .agg d] w fun e w' => (∃ r, e = .returned (.bool r)) ∧ Below w.heap.size w w' := by
  go_enter Ybaf.func4, Ybaf.ntmps4
  go_wp2
  go_loopw [5] (fun i wr => ∃ k : Nat, k ≤ 20 ∧ i = .int .i64 (k : Int) ∧ Below (w.heap.size + 2) ((w.alloc (.cells c 25)).alloc (.cells d 25)) wr) (fun i _ => 20 - (intOf i).toNat)
  case atStart => exact ⟨0, by omega, rfl, Below.refl _ _⟩
  case round =>
    obtain ⟨k, hk, rfl, hb⟩ := hrel
    have hend : ∀ {wq}, Below (w.heap.size + 2) ((w.alloc (.cells c 25)).alloc (.cells d 25)) wq → Below w.heap.size w wq := fun h =>
      (((Below.refl _ _).alloc (Nat.le_refl _) _).alloc (by simp) _).trans (h.mono (by omega))
    by_cases hlt : k < 20
    · obtain ⟨x, hx0, hx1, hx⟩ := hc.at hlt
      obtain ⟨y, hy0, hy1, hy⟩ := hd.at hlt
      have e0 : wr.cell? ⟨w.heap.size, k, none⟩ = some (.int .u8 x) := by
        rw [hb.cell (by simp)]; exact cell_heap (heap_alloc1 _ _ _) hx
      have e1 : wr.cell? ⟨w.heap.size + 1, k, none⟩ = some (.int .u8 y) := by
        rw [hb.cell (by simp)]; exact cell_heap (heap_alloc2 _ _ _) hy
      have k0 : (0 : Int) ≤ (k : Int) := by omega
      have k1 : (k : Int) < 20 := by omega
      clear hx hy hc hd
      go_wp2
      go_quiet (fail)
      go_wp2
      · go_quiet (fail)
        go_wp2
        go_ret
        exact ⟨⟨_, rfl⟩, hend (below_drewN (below_drewN hb _) _)⟩
      · go_roundw
        case rel => exact ⟨k + 1, by omega, by go_num, below_drewN hb _⟩
        case measure => simp [intOf]; omega
    · go_wp2
      go_ret
      exact ⟨⟨_, rfl⟩, hend hb⟩

set_option maxHeartbeats 1000000 in
theorem u64_any (g o n cp : Nat) (b0 b1 b2 b3 b4 b5 b6 b7 : Int) (w : World) (hn : 8 ≤ n)
    (c0 : w.cell? ⟨g, o, none⟩ = some (.int .u8 b0)) (c1 : w.cell? ⟨g, o + 1, none⟩ = some (.int .u8 b1)) (c2 : w.cell? ⟨g, o + 2, none⟩ = some (.int .u8 b2)) (c3 : w.cell? ⟨g, o + 3, none⟩ = some (.int .u8 b3))
    (c4 : w.cell? ⟨g, o + 4, none⟩ = some (.int .u8 b4)) (c5 : w.cell? ⟨g, o + 5, none⟩ = some (.int .u8 b5)) (c6 : w.cell? ⟨g, o + 6, none⟩ = some (.int .u8 b6)) (c7 : w.cell? ⟨g, o + 7, none⟩ = some (.int .u8 b7)) :
    Calls Ybaf.prog 16 #[.agg #[], .slice (some ⟨g, o, none⟩) n cp] w fun e w' => (∃ r, e = .returned (.int .u64 r)) ∧ Below w.heap.size w w' := by
  have hg : g < w.heap.size := lt_of_cell? c0
  have n0 : (0 : Int) < (n : Int) := by omega
  have n1 : (1 : Int) < (n : Int) := by omega
  have n2 : (2 : Int) < (n : Int) := by omega
  have n3 : (3 : Int) < (n : Int) := by omega
  have n4 : (4 : Int) < (n : Int) := by omega
  have n5 : (5 : Int) < (n : Int) := by omega
  have n6 : (6 : Int) < (n : Int) := by omega
  have n7 : (7 : Int) < (n : Int) := by omega
  go_enter Ybaf.func16, Ybaf.ntmps16
  go_wp2
  go_quiet (fail)
  go_wp2
  go_ret
  exact ⟨⟨_, rfl⟩, below_drewN ((Below.refl _ _).alloc (Nat.le_refl _) _) _⟩

set_option maxHeartbeats 1000000 in
theorem u32_any (g o n cp : Nat) (b0 b1 b2 b3 : Int) (w : World) (hn : 4 ≤ n)
    (c0 : w.cell? ⟨g, o, none⟩ = some (.int .u8 b0)) (c1 : w.cell? ⟨g, o + 1, none⟩ = some (.int .u8 b1)) (c2 : w.cell? ⟨g, o + 2, none⟩ = some (.int .u8 b2)) (c3 : w.cell? ⟨g, o + 3, none⟩ = some (.int .u8 b3)) :
    Calls Ybaf.prog 19 #[.agg #[], .slice (some ⟨g, o, none⟩) n cp] w fun e w' => (∃ r, e = .returned (.int .u32 r)) ∧ Below w.heap.size w w' := by
  have hg : g < w.heap.size := lt_of_cell? c0
  have n0 : (0 : Int) < (n : Int) := by omega
  have n1 : (1 : Int) < (n : Int) := by omega
  have n2 : (2 : Int) < (n : Int) := by omega
  have n3 : (3 : Int) < (n : Int) := by omega
  go_enter Ybaf.func19, Ybaf.ntmps19
  go_wp2
  go_quiet (fail)
  go_wp2
  go_ret
  exact ⟨⟨_, rfl⟩, below_drewN ((Below.refl _ _).alloc (Nat.le_refl _) _) _⟩

theorem cmp64_any (x y : Int) (w : World) : Calls Ybaf.prog 17 #[.int .u64 x, .int .u64 y] w fun e w' => (∃ r, e = .returned (.int .i64 r)) ∧ w' = w := by
  go_enter Ybaf.func17, Ybaf.ntmps17
  go_wp2
  all_goals
    go_ret
    exact ⟨⟨_, rfl⟩, rfl⟩
theorem cmp32_any (x y : Int) (w : World) : Calls Ybaf.prog 18 #[.int .u32 x, .int .u32 y] w fun e w' => (∃ r, e = .returned (.int .i64 r)) ∧ w' = w := by
  go_enter Ybaf.func18, Ybaf.ntmps18
  go_wp2
  all_goals
    go_ret
    exact ⟨⟨_, rfl⟩, rfl⟩

/-- A row of bytes in memory, read as eight (or four) cells. -/
theorem u64_at (c : Array Value) (hc : IsId c) (g k n cp : Nat) (w : World) (t : TypeId) (hg : w.heap[g]? = some (.cells c t (0, 0))) (hk : k + 8 ≤ 20) (hn : 8 ≤ n) :
    Calls Ybaf.prog 16 #[.agg #[], .slice (some ⟨g, k, none⟩) n cp] w fun e w' => (∃ r, e = .returned (.int .u64 r)) ∧ Below w.heap.size w w' := by
  obtain ⟨b0, _, _, e0⟩ := hc.at (k := k) (by omega)
  obtain ⟨b1, _, _, e1⟩ := hc.at (k := k + 1) (by omega)
  obtain ⟨b2, _, _, e2⟩ := hc.at (k := k + 2) (by omega)
  obtain ⟨b3, _, _, e3⟩ := hc.at (k := k + 3) (by omega)
  obtain ⟨b4, _, _, e4⟩ := hc.at (k := k + 4) (by omega)
  obtain ⟨b5, _, _, e5⟩ := hc.at (k := k + 5) (by omega)
  obtain ⟨b6, _, _, e6⟩ := hc.at (k := k + 6) (by omega)
  obtain ⟨b7, _, _, e7⟩ := hc.at (k := k + 7) (by omega)
  exact u64_any g k n cp b0 b1 b2 b3 b4 b5 b6 b7 w hn (cell_heap hg e0) (cell_heap hg e1) (cell_heap hg e2) (cell_heap hg e3) (cell_heap hg e4) (cell_heap hg e5) (cell_heap hg e6) (cell_heap hg e7)
theorem u32_at (c : Array Value) (hc : IsId c) (g k n cp : Nat) (w : World) (t : TypeId) (hg : w.heap[g]? = some (.cells c t (0, 0))) (hk : k + 4 ≤ 20) (hn : 4 ≤ n) :
    Calls Ybaf.prog 19 #[.agg #[], .slice (some ⟨g, k, none⟩) n cp] w fun e w' => (∃ r, e = .returned (.int .u32 r)) ∧ Below w.heap.size w w' := by
  obtain ⟨b0, _, _, e0⟩ := hc.at (k := k) (by omega)
  obtain ⟨b1, _, _, e1⟩ := hc.at (k := k + 1) (by omega)
  obtain ⟨b2, _, _, e2⟩ := hc.at (k := k + 2) (by omega)
  obtain ⟨b3, _, _, e3⟩ := hc.at (k := k + 3) (by omega)
  exact u32_any g k n cp b0 b1 b2 b3 w hn (cell_heap hg e0) (cell_heap hg e1) (cell_heap hg e2) (cell_heap hg e3)

set_option maxHeartbeats 1000000 in
theorem top_any (c : Array Value) (hc : IsId c) (w : World) :
    Calls Ybaf.prog 12 #[.agg c] w fun e w' => (∃ r, e = .returned (.int .u64 r)) ∧ Below w.heap.size w w' := by
  go_enter Ybaf.func12, Ybaf.ntmps12
  go_wp2
  refine wp_region_pick [0, 1] [2, 3] [0, 1] (fun _ => True) (by kernel_rfl) (by kernel_rfl) (fun _ _ d _ _ h => by cases d <;> exact h) trivial ?_
  iterate 2 (refine wpHead_cons (v := ?_) rfl (by rfl) ?_ ?_; rotate_left 1; (focus (intro w0 hS0; go_simp; first | done | with_reducible rfl)); simp only [Act.put, List.setIfInBounds_toArray, List.set_cons_zero, List.set_cons_succ])
  refine wpHead_nil ?_
  refine wpTail_list _ _ _ rfl ?_
  simp only [List.filterMap_cons, List.filterMap_nil, List.getElem?_cons_succ, List.getElem?_cons_zero]
  go_wp2_with fail
  refine (u64_at c hc _ 0 _ _ _ 25 (by exact heap_alloc_new _ _) (by omega) (by omega)).mono ?_
  rintro e w1 ⟨⟨r, rfl⟩, hb⟩
  go_wp2
  go_ret
  exact ⟨⟨_, rfl⟩, ((Below.refl _ _).alloc (Nat.le_refl _) _).drew.trans (hb.mono (by simp))⟩

attribute [local go_sem ↓] loadAt25 storeAt25
attribute [local go_sem] run_load25 run_store25 run_eq25 guard25 has20_drew has20_drewN row20_drew row20_drewN soft_drew soft_drewN has20_alloc row20_alloc has20_new row20_new soft_alloc soft_new put20_new put20_drew

theorem whole_has {w : World} {b : Nat} {c : Array Value} {t : TypeId} {fr : Nat × Nat} (h : w.heap[b]? = some (.cells c t fr)) (hc : IsId c) : has20 w b 0 := by unfold has20; rw [blk_of h, hc.1]; omega
theorem whole_row {w : World} {b : Nat} {c : Array Value} {t : TypeId} {fr : Nat × Nat} (h : w.heap[b]? = some (.cells c t fr)) (hc : IsId c) : row20 w b 0 = c := by
  rw [row20_of h]; simp [← hc.1]

set_option maxHeartbeats 1000000 in
theorem compare_any (c d : Array Value) (hc : IsId c) (hd : IsId d) (w : World) :
    Calls Ybaf.prog 13 #[.agg c, .agg d] w fun e w' => (∃ r, e = .returned (.int .i64 r)) ∧ Below w.heap.size w w' := by
  have hcs := hc.1
  have hds := hd.1
  go_enter Ybaf.func13, Ybaf.ntmps13
  go_wp2
  refine wp_region_pick [0, 2] [1, 3, 4, 5] [0, 1, 2] (fun w' => w'.heap[w.heap.size]? = some (.cells c 25 (0, 0)) ∧ w'.heap[w.heap.size + 1]? = some (.cells d 25 (0, 0))) (by kernel_rfl) (by kernel_rfl) (fun _ _ d _ _ h => by cases d <;> exact h) ⟨heap_alloc1 _ _ _, heap_alloc2 _ _ _⟩ ?_
  iterate 2 (refine wpHead_cons (v := ?_) rfl (by rfl) ?_ ?_; rotate_left 1; (focus (intro w0 hS0; have q1 := whole_has hS0.1 hc; have q2 := whole_row hS0.1 hc; have q3 := whole_has hS0.2 hd; have q4 := whole_row hS0.2 hd; clear hS0; go_simp; first | done | with_reducible rfl)); simp only [Act.put, List.setIfInBounds_toArray, List.set_cons_zero, List.set_cons_succ])
  refine wpHead_nil ?_
  refine wpTail_keep rfl (by rfl) (fun K hK => ?_)
  go_simp
  refine (top_any c hc _).mono ?_
  rintro e w1 ⟨⟨r1, rfl⟩, hb1⟩
  have hA1 : w1.heap[w.heap.size]? = some (.cells c 25 (0, 0)) := heap_below hb1 (by exact heap_alloc1 _ _ _)
  have hB1 : w1.heap[w.heap.size + 1]? = some (.cells d 25 (0, 0)) := heap_below hb1 (by exact heap_alloc2 _ _ _)
  have hbel1 : Below w.heap.size w w1 := (((Below.refl _ _).alloc (Nat.le_refl _) _).alloc (by simp) _).drew.trans (hb1.mono (by simp; omega))
  refine hK.out _ _ ⟨hA1, hB1⟩ ?_
  clear hK K hb1
  refine wpTail_list _ _ _ rfl ?_
  simp only [List.filterMap_cons, List.filterMap_nil, List.getElem?_cons_succ, List.getElem?_cons_zero]
  have HA1 := Hid.mk hA1
  have HB1 := Hid.mk hB1
  clear hA1 hB1
  go_wp2_with fail
  refine (top_any d hd _).mono ?_
  rintro e w2 ⟨⟨r2, rfl⟩, hb2⟩
  have HA2 : Hid (w2.heap[w.heap.size]? = some (.cells c 25 (0, 0))) := heap_below hb2 HA1.out
  have HB2 : Hid (w2.heap[w.heap.size + 1]? = some (.cells d 25 (0, 0))) := heap_below hb2 HB1.out
  have hbel2 : Below w.heap.size w w2 := hbel1.trans (hb2.mono hbel1.size)
  clear hb2 HA1 HB1 hbel1 w1
  by_cases hr : r1 = r2
  · have hrb : (r1 != r2) = false := by simp [hr]
    clear hr
    go_wp2_with fail
    refine wp_region_pick [0, 1, 3, 4] [2, 5, 6, 7] [0, 1, 2, 3, 4] (fun _ => True) (by kernel_rfl) (by kernel_rfl) (fun _ _ d _ _ h => by cases d <;> exact h) trivial ?_
    iterate 4 (refine wpHead_cons (v := ?_) rfl (by rfl) ?_ ?_; rotate_left 1; (focus (intro w0 hS0; go_simp; first | done | with_reducible rfl)); simp only [Act.put, List.setIfInBounds_toArray, List.set_cons_zero, List.set_cons_succ])
    refine wpHead_nil ?_
    refine wpTail_keep rfl (by rfl) (fun K hK => ?_)
    go_simp
    refine (u64_at c hc _ 8 _ _ _ 25 (by exact HA2.out) (by omega) (by omega)).mono ?_
    rintro e w3 ⟨⟨s1, rfl⟩, hb3⟩
    have HA3 : Hid (w3.heap[w.heap.size]? = some (.cells c 25 (0, 0))) := heap_below hb3 HA2.out
    have HB3 : Hid (w3.heap[w.heap.size + 1]? = some (.cells d 25 (0, 0))) := heap_below hb3 HB2.out
    have hbel3 : Below w.heap.size w w3 := hbel2.drew.trans (hb3.mono hbel2.size)
    refine hK.out _ _ trivial ?_
    clear hK K hb3 HA2 HB2 hbel2
    refine wpTail_list _ _ _ rfl ?_
    simp only [List.filterMap_cons, List.filterMap_nil, List.getElem?_cons_succ, List.getElem?_cons_zero]
    go_wp2_with fail
    refine (u64_at d hd _ 8 _ _ _ 25 (by exact HB3.out) (by omega) (by omega)).mono ?_
    rintro e w4 ⟨⟨s2, rfl⟩, hb4⟩
    have HA4 : Hid (w4.heap[w.heap.size]? = some (.cells c 25 (0, 0))) := heap_below hb4 HA3.out
    have HB4 : Hid (w4.heap[w.heap.size + 1]? = some (.cells d 25 (0, 0))) := heap_below hb4 HB3.out
    have hbel4 : Below w.heap.size w w4 := hbel3.trans (hb4.mono hbel3.size)
    clear hb4 HA3 HB3 hbel3 w3 w2
    by_cases hs : s1 = s2
    · have hsb : (s1 != s2) = false := by simp [hs]
      clear hs
      go_wp2_with fail
      refine wp_region_pick [0, 1, 3, 4] [2, 5, 6, 7] [0, 1, 2, 3, 4] (fun _ => True) (by kernel_rfl) (by kernel_rfl) (fun _ _ d _ _ h => by cases d <;> exact h) trivial ?_
      iterate 4 (refine wpHead_cons (v := ?_) rfl (by rfl) ?_ ?_; rotate_left 1; (focus (intro w0 hS0; go_simp; first | done | with_reducible rfl)); simp only [Act.put, List.setIfInBounds_toArray, List.set_cons_zero, List.set_cons_succ])
      refine wpHead_nil ?_
      refine wpTail_keep rfl (by rfl) (fun K hK => ?_)
      go_simp
      refine (u32_at c hc _ 16 _ _ _ 25 (by exact HA4.out) (by omega) (by omega)).mono ?_
      rintro e w5 ⟨⟨t1, rfl⟩, hb5⟩
      have HB5 : Hid (w5.heap[w.heap.size + 1]? = some (.cells d 25 (0, 0))) := heap_below hb5 HB4.out
      have hbel5 : Below w.heap.size w w5 := hbel4.drew.trans (hb5.mono hbel4.size)
      refine hK.out _ _ trivial ?_
      clear hK K hb5 HA4 HB4 hbel4
      refine wpTail_list _ _ _ rfl ?_
      simp only [List.filterMap_cons, List.filterMap_nil, List.getElem?_cons_succ, List.getElem?_cons_zero]
      go_wp2_with fail
      refine (u32_at d hd _ 16 _ _ _ 25 (by exact HB5.out) (by omega) (by omega)).mono ?_
      rintro e w6 ⟨⟨t2, rfl⟩, hb6⟩
      have hbel6 : Below w.heap.size w w6 := hbel5.trans (hb6.mono hbel5.size)
      clear hb6 HB5 hbel5
      go_wp2_with (go_at_call 18; refine (cmp32_any _ _ _).mono ?_; rintro e w' ⟨⟨r, rfl⟩, rfl⟩)
      go_ret
      exact ⟨⟨_, rfl⟩, hbel6⟩
    · have hsb : (s1 != s2) = true := by simp [hs]
      clear hs
      go_wp2_with (go_at_call 17; refine (cmp64_any _ _ _).mono ?_; rintro e w' ⟨⟨r, rfl⟩, rfl⟩)
      go_ret
      exact ⟨⟨_, rfl⟩, hbel4⟩
  · have hrb : (r1 != r2) = true := by simp [hr]
    clear hr
    go_wp2_with (go_at_call 17; refine (cmp64_any _ _ _).mono ?_; rintro e w' ⟨⟨r, rfl⟩, rfl⟩)
    go_ret
    exact ⟨⟨_, rfl⟩, hbel2⟩

end Go.Proofs.YbulkdzhaFmt
