/-
  THE WALKS of the queue's own methods: Less, Swap, Len.
-/
import Derived.Test.YbulkdzgmTime
import Derived.Test.YbulkdzgmPick3
namespace Go.Proofs.Ybulkdzgm
open Go Go.RowKit

/-- An address of the dialer. -/
structure Item where
  st : Value
  due : Int
  ans : Bool
  car : Bool
  nam : Bool
def Item.cells (x : Item) (i : Nat) : Array Value := #[x.st, .int .u64 (x.due % 1000000000), .int .i64 (x.due / 1000000000), .pointer none, .int .i64 i, .bool x.ans, .bool x.car, .int .u64 i, .bool x.nam]

/-- Whose turn comes before. -/
def bef (X : Nat → Item) (i j : Nat) : Bool := decide ((X i).due < (X j).due ∨ ((X i).due = (X j).due ∧ i < j))

theorem cmpZ_or (d e : Int) (a b : Nat) : decide ((if cmpZ d e = 0 then cmpZ a b else cmpZ d e) < 0) = decide (d < e ∨ (d = e ∧ a < b)) := by
  rw [decide_eq_decide]
  unfold cmpZ
  by_cases h1 : d < e
  · simp [h1]
  · by_cases h2 : e < d
    · simp [h1, h2]; omega
    · have h3 : d = e := by omega
      subst h3
      by_cases h4 : (a : Int) < (b : Int)
      · simp [h4]; omega
      · by_cases h5 : (b : Int) < (a : Int)
        · simp [h4, h5]; omega
        · simp [h4, h5]; omega

set_option maxRecDepth 100000 in
set_option maxHeartbeats 1000000 in
theorem less_any (g m cap i j a b pa pb : Nat) (X : Nat → Item) (w : World) (hi : i < m) (hj : j < m) (h1 : w.cell? ⟨g, i, none⟩ = some (.pointer (some ⟨pa, 0, none⟩))) (h2 : w.cell? ⟨g, j, none⟩ = some (.pointer (some ⟨pb, 0, none⟩)))
    (h3 : w.heap[pa]? = some (.cells ((X a).cells a) 49 (0, 0))) (h4 : w.heap[pb]? = some (.cells ((X b).cells b) 49 (0, 0))) :
    Calls Yba.prog 20 #[.slice (some ⟨g, 0, none⟩) m cap, .int .i64 i, .int .i64 j] w fun e w' => e = .returned (.bool (bef X a b)) ∧ Below w.heap.size w w' := by
  obtain ⟨z, hz⟩ : ∃ z, bef X a b = z := ⟨_, rfl⟩
  rw [hz]
  have hz' := cmpZ_or (X a).due (X b).due a b
  have hzz : decide ((X a).due < (X b).due ∨ ((X a).due = (X b).due ∧ a < b)) = z := by rw [← hz]; rfl
  rw [hzz] at hz'
  obtain ⟨d, hd⟩ : ∃ d, (X a).due = d := ⟨_, rfl⟩
  obtain ⟨e, he⟩ : ∃ d, (X b).due = d := ⟨_, rfl⟩
  rw [hd, he] at hz'
  have HZ := Hid.mk hz'
  have c1 : w.cell? ⟨pa, 1, none⟩ = some (.int .u64 (d % 1000000000)) := by rw [← hd]; exact cell_heap h3 rfl
  have c2 : w.cell? ⟨pa, 2, none⟩ = some (.int .i64 (d / 1000000000)) := by rw [← hd]; exact cell_heap h3 rfl
  have c3 : w.cell? ⟨pa, 3, none⟩ = some (.pointer none) := cell_heap h3 rfl
  have c4 : w.cell? ⟨pa, 7, none⟩ = some (.int .u64 (a : Int)) := cell_heap h3 rfl
  have c5 : w.cell? ⟨pb, 1, none⟩ = some (.int .u64 (e % 1000000000)) := by rw [← he]; exact cell_heap h4 rfl
  have c6 : w.cell? ⟨pb, 2, none⟩ = some (.int .i64 (e / 1000000000)) := by rw [← he]; exact cell_heap h4 rfl
  have c7 : w.cell? ⟨pb, 3, none⟩ = some (.pointer none) := cell_heap h4 rfl
  have c8 : w.cell? ⟨pb, 7, none⟩ = some (.int .u64 (b : Int)) := cell_heap h4 rfl
  have i0 : (0 : Int) ≤ (i : Int) := by omega
  have i1 : (i : Int) < (m : Int) := by omega
  have j0 : (0 : Int) ≤ (j : Int) := by omega
  have j1 : (j : Int) < (m : Int) := by omega
  clear hz hz' hzz h3 h4 hd he hi hj
  go_enter Yba.func20, Yba.ntmps20
  go_wp2_with fail
  refine wp_region_pick [0, 1, 2, 3, 4, 5, 6, 7, 8, 9, 10, 11, 12, 13, 15, 16, 17, 18, 19, 20, 21, 22, 23, 24, 25, 26, 27, 28] [14, 29, 30, 31, 32, 33] [0, 1, 2, 3, 4, 5, 6, 7, 8, 9, 10, 11, 12, 13, 14, 15, 16, 17, 18, 19, 20, 21, 22, 23, 24, 25, 26, 27, 28]
    (fun w' => w'.cell? ⟨g, i, none⟩ = some (.pointer (some ⟨pa, 0, none⟩)) ∧ w'.cell? ⟨g, j, none⟩ = some (.pointer (some ⟨pb, 0, none⟩)) ∧ w'.cell? ⟨pa, 1, none⟩ = some (.int .u64 (d % 1000000000)) ∧ w'.cell? ⟨pa, 2, none⟩ = some (.int .i64 (d / 1000000000)) ∧ w'.cell? ⟨pa, 3, none⟩ = some (.pointer none) ∧ w'.cell? ⟨pa, 7, none⟩ = some (.int .u64 (a : Int)) ∧
      w'.cell? ⟨pb, 1, none⟩ = some (.int .u64 (e % 1000000000)) ∧ w'.cell? ⟨pb, 2, none⟩ = some (.int .i64 (e / 1000000000)) ∧ w'.cell? ⟨pb, 3, none⟩ = some (.pointer none) ∧ w'.cell? ⟨pb, 7, none⟩ = some (.int .u64 (b : Int)))
    (by kernel_rfl) (by kernel_rfl) (fun _ _ d _ _ h => by cases d <;> exact h) ⟨h1, h2, c1, c2, c3, c4, c5, c6, c7, c8⟩ ?_
  iterate 28 (refine wpHead_cons (v := ?_) rfl (by rfl) ?_ ?_; rotate_left 1; (focus (rintro w0 ⟨s1, s2, s3, s4, s5, s6, s7, s8, s9, s10⟩; go_simp; first | done | with_reducible rfl)); simp only [Act.put, List.setIfInBounds_toArray, List.set_cons_zero, List.set_cons_succ])
  refine wpHead_nil ?_
  refine wpTail_keep rfl (by rfl) (fun KK hKK => ?_)
  go_simp
  refine (compare_any d e _).mono ?_
  rintro x w1 ⟨rfl, hb1⟩
  have hb1' : Below w.heap.size w w1 := (Below.refl _ _).drew.trans hb1
  refine hKK.out _ _ ⟨cell_below hb1' h1, cell_below hb1' h2, cell_below hb1' c1, cell_below hb1' c2, cell_below hb1' c3, cell_below hb1' c4, cell_below hb1' c5, cell_below hb1' c6, cell_below hb1' c7, cell_below hb1' c8⟩ ?_
  clear hKK KK hb1 h1 h2 c1 c2 c3 c4 c5 c6 c7 c8
  obtain ⟨cz, hcz⟩ : ∃ x, cmpZ d e = x := ⟨_, rfl⟩
  rw [hcz] at HZ ⊢
  refine wpTail_list _ _ _ rfl ?_
  simp only [List.filterMap_cons, List.filterMap_nil, List.getElem?_cons_succ, List.getElem?_cons_zero]
  go_wp2_with fail
  refine (cmp64_any a b _).mono ?_
  rintro x w2 ⟨rfl, rfl⟩
  obtain ⟨cy, hcy⟩ : ∃ x, cmpZ a b = x := ⟨_, rfl⟩
  rw [hcy] at HZ ⊢
  go_wp2_with fail
  refine (or_any w2.heap.size cz cy _ (by exact cell_heap (heap_alloc_new _ _) rfl) (by exact cell_heap (heap_alloc_new _ _) rfl)).mono ?_
  rintro x w3 ⟨rfl, rfl⟩
  obtain ⟨o, ho⟩ : ∃ o, (if cz = 0 then cy else cz) = o := ⟨_, rfl⟩
  rw [ho] at HZ ⊢
  go_wp2_with fail
  go_ret
  exact ⟨by rw [← HZ.out]; rfl, hb1'.alloc hb1'.size _⟩

set_option maxRecDepth 100000 in
theorem len_any (a : Option Addr) (m cap : Nat) (w : World) : Calls Yba.prog 48 #[.slice a m cap] w fun e w' => e = .returned (.int .i64 m) ∧ w' = w := by
  go_enter Yba.func48, Yba.ntmps48
  go_wp2_with fail
  go_ret
  exact ⟨rfl, rfl⟩

set_option maxRecDepth 100000 in
set_option maxHeartbeats 1000000 in
theorem swap_any (g m cap i j : Nat) (pa pb : Option Addr) (arr : Array Value) (w : World) (hi : i < m) (hj : j < m) (hg : w.heap[g]? = some (.cells arr 41 (0, 0))) (h1 : arr[i]? = some (.pointer pa)) (h2 : arr[j]? = some (.pointer pb)) :
    Calls Yba.prog 49 #[.slice (some ⟨g, 0, none⟩) m cap, .int .i64 i, .int .i64 j] w fun e w' => e = .returned (.tuple #[]) ∧ w'.heap[g]? = some (.cells ((arr.setIfInBounds i (.pointer pb)).setIfInBounds j (.pointer pa)) 41 (0, 0)) ∧ w'.heap.size = w.heap.size ∧ (∀ b, b ≠ g → w'.heap[b]? = w.heap[b]?) ∧ ∀ B, B ≤ g → Below B w w' := by
  have c1 := cell_heap hg h1
  have c2 := cell_heap hg h2
  have c3 := frozen_heap (o := i) hg
  have c4 := frozen_heap (o := j) hg
  have i0 : (0 : Int) ≤ (i : Int) := by omega
  have i1 : (i : Int) < (m : Int) := by omega
  have j0 : (0 : Int) ≤ (j : Int) := by omega
  have j1 : (j : Int) < (m : Int) := by omega
  have hg1 := heap_setCell_same (o := i) hg (.pointer pb)
  have c5 : (w.setCell ⟨g, i, none⟩ (.pointer pb)).cell? ⟨g, j, none⟩ = some (.pointer pb) := cell_heap hg1 (by
    rw [Array.getElem?_setIfInBounds]
    by_cases hij : i = j
    · subst hij
      have := (Array.getElem?_eq_some_iff.1 h1).1
      rw [if_pos rfl, if_pos this]
    · rw [if_neg hij]; exact h2)
  have c6 := frozen_heap (o := j) hg1
  have HG1 := Hid.mk hg1
  clear hg h1 h2 hg1
  go_enter Yba.func49, Yba.ntmps49
  go_wp2_with fail
  refine wp_region_pick3 [0, 1, 2, 3, 4, 5, 6, 8, 9, 10] [7, 11] [12, 13, 14, 15] [] [0, 1, 2, 3, 4, 5, 6, 7, 8, 9, 10, 11] (fun w' => w'.cell? ⟨g, i, none⟩ = some (.pointer pa) ∧ w'.cell? ⟨g, j, none⟩ = some (.pointer pb)) (by kernel_rfl) (by kernel_rfl) (fun _ _ d _ _ h => by cases d <;> exact h) ⟨c1, c2⟩ ?_
  iterate 10 (refine wpHead_cons (v := ?_) rfl (by rfl) ?_ ?_; rotate_left 1; (focus (rintro w0 -; go_simp; first | done | with_reducible rfl)); simp only [Act.put, List.setIfInBounds_toArray, List.set_cons_zero, List.set_cons_succ])
  refine wpHead_nil ?_
  iterate 2 (refine wpHead_cons (v := ?_) rfl (by rfl) ?_ ?_; rotate_left 1; (focus (rintro w0 ⟨s1, s2⟩; go_simp; first | done | with_reducible rfl)); simp only [Act.put, List.setIfInBounds_toArray, List.set_cons_zero, List.set_cons_succ])
  refine wpHead_nil ?_
  refine wpTailL_list _ _ _ rfl ?_
  simp only [List.filterMap_cons, List.filterMap_nil, List.getElem?_cons_succ, List.getElem?_cons_zero]
  go_wp2_with fail
  go_end0
  exact ⟨rfl, heap_setCell_same HG1.out _, by simp [World.setCell], fun b hb => (Below.heap_setCell _ _ _ _ hb).trans (Below.heap_setCell _ _ _ _ hb), fun B hB => ((Below.refl _ _).setCell hB _).drew.setCell hB _⟩
end Go.Proofs.Ybulkdzgm
