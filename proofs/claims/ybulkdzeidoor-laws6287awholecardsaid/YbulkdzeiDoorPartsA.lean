/-
  LEMMAS for the walk of LawS6287AWhole: the row of jobs.
-/
import Derived.Test.YbulkdzeiDoorRunA
import Derived.Test.YbulkdzeiDoorKit
namespace Go.Proofs.YbulkdzeiDoor.A
open Go Go.RowKit

/-- The row of jobs after k rounds. -/
def Filled (arr : Array Value) (n k : Nat) (C M : Nat → Nat) : Prop :=
  arr.size = n * 5 ∧ (∀ v ∈ arr.toList, v.oneCell' = true) ∧ ∀ i, i < k → arr[i * 5]? = some (.float .f64 (C i)) ∧ arr[i * 5 + 1]? = some (.float .f64 (M i)) ∧ (∃ f, arr[i * 5 + 2]? = some (.float .f64 f)) ∧
    arr[i * 5 + 3]? = some (.int .i64 i) ∧ ∃ l, arr[i * 5 + 4]? = some (.int .i64 l)

theorem filled_start (n : Nat) (C M : Nat → Nat) : Filled (madeCells (Value.agg #[.float .f64 0, .float .f64 0, .float .f64 0, .int .i64 0, .int .i64 0]).cells (n * 5)) n 0 C M := by
  refine ⟨size_madeCells _ _, ?_, fun i hi => absurd hi (Nat.not_lt_zero _)⟩
  intro v hv
  simp only [madeCells, Value.cells, Array.toList_map, List.mem_map] at hv
  obtain ⟨j, _, rfl⟩ := hv
  have : j % 5 = 0 ∨ j % 5 = 1 ∨ j % 5 = 2 ∨ j % 5 = 3 ∨ j % 5 = 4 := by omega
  rcases this with h | h | h | h | h <;> simp [h, Value.oneCell']

def put5 (arr : Array Value) (o : Nat) (a b c d e : Value) : Array Value := ((((arr.setIfInBounds o a).setIfInBounds (o + 1) b).setIfInBounds (o + 2) c).setIfInBounds (o + 3) d).setIfInBounds (o + 4) e

theorem set5 {w : World} {g : Nat} {t : TypeId} {arr : Array Value} {fr : Nat × Nat} (h : w.heap[g]? = some (.cells arr t fr)) (o : Nat) (a b c d e : Value) :
    (((((w.setCell ⟨g, o, none⟩ a).setCell ⟨g, o + 1, none⟩ b).setCell ⟨g, o + 2, none⟩ c).setCell ⟨g, o + 3, none⟩ d).setCell ⟨g, o + 4, none⟩ e).heap[g]? = some (.cells (put5 arr o a b c d e) t fr) :=
  heap_setCell_same (heap_setCell_same (heap_setCell_same (heap_setCell_same (heap_setCell_same h a) b) c) d) e

theorem one_set {arr : Array Value} {i : Nat} {x : Value} (h : ∀ v ∈ arr.toList, v.oneCell' = true) (hx : x.oneCell' = true) : ∀ v ∈ (arr.setIfInBounds i x).toList, v.oneCell' = true := by
  intro v hv
  simp only [Array.toList_setIfInBounds] at hv
  rcases List.mem_or_eq_of_mem_set hv with h1 | rfl
  · exact h v h1
  · exact hx

theorem filled_step {arr : Array Value} {n k : Nat} {C M : Nat → Nat} (h : Filled arr n k C M) (hk : k < n) (f : Nat) (l : Int) :
    Filled (put5 arr (k * 5) (.float .f64 (C k)) (.float .f64 (M k)) (.float .f64 f) (.int .i64 (k : Int)) (.int .i64 l)) n (k + 1) C M := by
  obtain ⟨h1, h2, h3⟩ := h
  refine ⟨by simp [put5, h1], one_set (one_set (one_set (one_set (one_set h2 rfl) rfl) rfl) rfl) rfl, ?_⟩
  intro i hi
  by_cases hik : i = k
  · subst hik
    unfold put5
    refine ⟨?_, ?_, ⟨f, ?_⟩, ?_, ⟨l, ?_⟩⟩ <;> simp [Array.getElem?_setIfInBounds] <;> omega
  · obtain ⟨p0, p1, ⟨f', p2⟩, p3, ⟨l', p4⟩⟩ := h3 i (by omega)
    have ne : ∀ j j', j < 5 → j' < 5 → k * 5 + j ≠ i * 5 + j' := by intro j j' _ _; omega
    have get : ∀ j', j' < 5 → (put5 arr (k * 5) (.float .f64 (C k)) (.float .f64 (M k)) (.float .f64 f) (.int .i64 (k : Int)) (.int .i64 l))[i * 5 + j']? = arr[i * 5 + j']? := by
      intro j' hj'
      unfold put5
      rw [Array.getElem?_setIfInBounds_ne (ne 4 j' (by omega) hj'), Array.getElem?_setIfInBounds_ne (ne 3 j' (by omega) hj'), Array.getElem?_setIfInBounds_ne (ne 2 j' (by omega) hj'), Array.getElem?_setIfInBounds_ne (ne 1 j' (by omega) hj'), Array.getElem?_setIfInBounds_ne (by omega)]
    exact ⟨(get 0 (by omega)).trans p0, (get 1 (by omega)).trans p1, ⟨f', (get 2 (by omega)).trans p2⟩, (get 3 (by omega)).trans p3, ⟨l', (get 4 (by omega)).trans p4⟩⟩

theorem cell_heap {w : World} {g o : Nat} {c : Array Value} {t : TypeId} {fr : Nat × Nat} {v : Value} (h : w.heap[g]? = some (.cells c t fr)) (hv : c[o]? = some v) : w.cell? ⟨g, o, none⟩ = some v := by
  simp [World.cell?, h, hv]

/-- The packer's cells. -/
def pkCells (H k : Nat) : Array Value := #[.nilFunc, .int .i64 0, .pointer none, .slice (some ⟨H, 0, none⟩) k k, .int .i64 k, .slice none 0 0, .slice none 0 0, .int .i64 0, .slice none 0 0]

theorem jobs_of {w3 : World} {H k : Nat} {arr : Array Value} {C M : Nat → Nat} (hL : w3.heap[H]? = some (.cells arr 28 (0, 0))) (hF : Filled arr k k C M) (hC : ∀ i, i < k → C i < 18446744073709551616) (hM : ∀ i, i < k → M i < 18446744073709551616)
    (u0 : w3.cell? ⟨0, 0, none⟩ = some (.float .f64 9218868437227405312)) (u1 : w3.cell? ⟨0, 1, none⟩ = some (.float .f64 9218868437227405312)) (u2 : w3.cell? ⟨0, 2, none⟩ = some (.float .f64 9218868437227405312)) :
    Jobs (w3.alloc (.cells (pkCells H k) 39)) w3.heap.size H k C M := by
  have hH : H < w3.heap.size := (Array.getElem?_eq_some_iff.1 hL).1
  have hL' : (w3.alloc (.cells (pkCells H k) 39)).heap[H]? = some (.cells arr 28 (0, 0)) := (Below.heap_alloc _ _ _ hH).trans hL
  have old : ∀ {p : Addr} {v : Value}, w3.cell? p = some v → (w3.alloc (.cells (pkCells H k) 39)).cell? p = some v := fun h => cell_below ((Below.refl _ _).alloc (Nat.le_refl _) _) h
  exact ⟨old u0, old u1, old u2, cell_heap (heap_alloc_new w3 _) rfl, fun i hi => cell_heap hL' (hF.2.2 i hi).1, fun i hi => cell_heap hL' (hF.2.2 i hi).2.1, by simp; omega, hC, hM⟩

theorem same_sim (a b : Nat) (h : Sim a b) (w : World) : Calls Ybad.prog 8 #[.float .f64 a, .float .f64 b] w fun e w' => e = .returned (.bool true) ∧ w' = w :=
  (same_any a b w).mono fun e w' ⟨r, he, hr, hw⟩ => ⟨by rw [he, hr h], hw⟩

theorem zstep {X : Nat → Nat} {lo q j a x : Nat} (h1 : j ≤ lo + q) (h2 : lo + q ≤ j) (ha : Sim a (least X lo q)) (hx : Sim x (X j)) : Sim (zmin a x) (least X lo (q + 1)) := by
  obtain rfl : j = lo + q := by omega
  exact Sim.zmin ha hx

theorem below_set5 {B : Nat} {w0 w : World} (h : Below B w0 w) {g : Nat} (hg : B ≤ g) (o : Nat) (a b c d e : Value) :
    Below B w0 (((((w.setCell ⟨g, o, none⟩ a).setCell ⟨g, o + 1, none⟩ b).setCell ⟨g, o + 2, none⟩ c).setCell ⟨g, o + 3, none⟩ d).setCell ⟨g, o + 4, none⟩ e) :=
  ((((h.setCell hg _).setCell hg _).setCell hg _).setCell hg _).setCell hg _
end Go.Proofs.YbulkdzeiDoor.A
