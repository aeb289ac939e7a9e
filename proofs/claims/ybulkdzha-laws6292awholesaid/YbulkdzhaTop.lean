/-
  THE WALKS of Uint64, Uint32, top and Compare at the identifiers of numbers.
-/
import Derived.Test.YbulkdzhaPlain
import Derived.WalkSmall
import Derived.Laws.Bits64b
namespace Go.Proofs.Ybulkdzha
open Go Go.RowKit

theorem or_low (x y : Int) (x0 : 0 ≤ x) (x1 : x ≤ 255) (y0 : 0 ≤ y) (y1 : y ≤ 255) : bits .or .u64 y (x * 256) = x * 256 + y := by
  obtain ⟨a, rfl⟩ := Int.eq_ofNat_of_zero_le x0
  obtain ⟨b, rfl⟩ := Int.eq_ofNat_of_zero_le y0
  have h := bits_or_u64_nat b (a * 256) (by omega) (by omega)
  have e : b ||| a * 256 = a * 256 + b := by
    rw [Nat.or_comm, Nat.mul_comm a 256]
    exact (Nat.two_pow_add_eq_or_of_lt (i := 8) (b := b) (by omega) a).symm
  rw [e] at h
  simpa using h
theorem or_zero64 (z : Int) (z0 : 0 ≤ z) (z1 : z < 18446744073709551616) : bits .or .u64 z 0 = z := by
  obtain ⟨a, rfl⟩ := Int.eq_ofNat_of_zero_le z0
  have h := bits_or_u64_nat a 0 (by omega) (by omega)
  rw [Nat.or_zero] at h
  simpa using h

set_option maxHeartbeats 1000000 in
/-- Six zeros, then two bytes. -/
theorem u64_low (g o n cp : Nat) (x y : Int) (w : World) (hn : 8 ≤ n) (x0 : 0 ≤ x) (x1 : x ≤ 255) (y0 : 0 ≤ y) (y1 : y ≤ 255)
    (c0 : w.cell? ⟨g, o, none⟩ = some (.int .u8 0)) (c1 : w.cell? ⟨g, o + 1, none⟩ = some (.int .u8 0)) (c2 : w.cell? ⟨g, o + 2, none⟩ = some (.int .u8 0)) (c3 : w.cell? ⟨g, o + 3, none⟩ = some (.int .u8 0))
    (c4 : w.cell? ⟨g, o + 4, none⟩ = some (.int .u8 0)) (c5 : w.cell? ⟨g, o + 5, none⟩ = some (.int .u8 0)) (c6 : w.cell? ⟨g, o + 6, none⟩ = some (.int .u8 x)) (c7 : w.cell? ⟨g, o + 7, none⟩ = some (.int .u8 y)) :
    Calls Yba.prog 18 #[.agg #[], .slice (some ⟨g, o, none⟩) n cp] w fun e w' => e = .returned (.int .u64 (x * 256 + y)) ∧ Below w.heap.size w w' := by
  have hg : g < w.heap.size := lt_of_cell? c0
  have n0 : (0 : Int) < (n : Int) := by omega
  have n1 : (1 : Int) < (n : Int) := by omega
  have n2 : (2 : Int) < (n : Int) := by omega
  have n3 : (3 : Int) < (n : Int) := by omega
  have n4 : (4 : Int) < (n : Int) := by omega
  have n5 : (5 : Int) < (n : Int) := by omega
  have n6 : (6 : Int) < (n : Int) := by omega
  have n7 : (7 : Int) < (n : Int) := by omega
  have ho := or_low x y x0 x1 y0 y1
  have hz := or_zero64 (x * 256 + y) (by omega) (by omega)
  go_enter Yba.func18, Yba.ntmps18
  go_wp2
  go_quiet (fail)
  go_wp2
  go_ret
  exact ⟨rfl, below_drewN ((Below.refl _ _).alloc (Nat.le_refl _) _) _⟩
theorem or_low32 (x y : Int) (x0 : 0 ≤ x) (x1 : x ≤ 255) (y0 : 0 ≤ y) (y1 : y ≤ 255) : bits .or .u32 y (x * 256) = x * 256 + y := by
  obtain ⟨a, rfl⟩ := Int.eq_ofNat_of_zero_le x0
  obtain ⟨b, rfl⟩ := Int.eq_ofNat_of_zero_le y0
  have e : b ||| a * 256 = a * 256 + b := by
    rw [Nat.or_comm, Nat.mul_comm a 256]
    exact (Nat.two_pow_add_eq_or_of_lt (i := 8) (b := b) (by omega) a).symm
  have h1 : (BitVec.ofInt 32 ((b : Nat) : Int)).toNat = b := by
    rw [BitVec.ofInt_natCast, BitVec.toNat_ofNat]; exact Nat.mod_eq_of_lt (by omega)
  have h2 : (BitVec.ofInt 32 ((a : Int) * 256)).toNat = a * 256 := by
    rw [show (a : Int) * 256 = ((a * 256 : Nat) : Int) by omega, BitVec.ofInt_natCast, BitVec.toNat_ofNat]; exact Nat.mod_eq_of_lt (by omega)
  show IntKind.u32.wrap ((BitVec.ofInt 32 ((b : Nat) : Int) ||| BitVec.ofInt 32 ((a : Int) * 256)).toNat : Int) = _
  rw [BitVec.toNat_or, h1, h2, e, IntKind.wrap_u32]
  omega
theorem or_zero32 (z : Int) (z0 : 0 ≤ z) (z1 : z < 4294967296) : bits .or .u32 z 0 = z := by
  obtain ⟨a, rfl⟩ := Int.eq_ofNat_of_zero_le z0
  have h1 : (BitVec.ofInt 32 ((a : Nat) : Int)).toNat = a := by
    rw [BitVec.ofInt_natCast, BitVec.toNat_ofNat]; exact Nat.mod_eq_of_lt (by omega)
  show IntKind.u32.wrap ((BitVec.ofInt 32 ((a : Nat) : Int) ||| BitVec.ofInt 32 0).toNat : Int) = _
  have h2 : (BitVec.ofInt 32 (0 : Int)).toNat = 0 := by decide
  rw [BitVec.toNat_or, h1, h2, Nat.or_zero, IntKind.wrap_u32]
  omega

set_option maxHeartbeats 1000000 in
/-- Two zeros, then two bytes. -/
theorem u32_low (g o n cp : Nat) (x y : Int) (w : World) (hn : 4 ≤ n) (x0 : 0 ≤ x) (x1 : x ≤ 255) (y0 : 0 ≤ y) (y1 : y ≤ 255)
    (c0 : w.cell? ⟨g, o, none⟩ = some (.int .u8 0)) (c1 : w.cell? ⟨g, o + 1, none⟩ = some (.int .u8 0)) (c2 : w.cell? ⟨g, o + 2, none⟩ = some (.int .u8 x)) (c3 : w.cell? ⟨g, o + 3, none⟩ = some (.int .u8 y)) :
    Calls Yba.prog 21 #[.agg #[], .slice (some ⟨g, o, none⟩) n cp] w fun e w' => e = .returned (.int .u32 (x * 256 + y)) ∧ Below w.heap.size w w' := by
  have hg : g < w.heap.size := lt_of_cell? c0
  have n0 : (0 : Int) < (n : Int) := by omega
  have n1 : (1 : Int) < (n : Int) := by omega
  have n2 : (2 : Int) < (n : Int) := by omega
  have n3 : (3 : Int) < (n : Int) := by omega
  have ho := or_low32 x y x0 x1 y0 y1
  have hz := or_zero32 (x * 256 + y) (by omega) (by omega)
  go_enter Yba.func21, Yba.ntmps21
  go_wp2
  go_quiet (fail)
  go_wp2
  go_ret
  exact ⟨rfl, below_drewN ((Below.refl _ _).alloc (Nat.le_refl _) _) _⟩

/-- The first word of a number's identifier. -/
theorem idv_top (v : Nat) : (v : Int) / 16777216 * 256 + (v : Int) / 65536 % 256 = ((v / 65536 : Nat) : Int) := by omega
theorem idv_last (v : Nat) : (v : Int) / 256 % 256 * 256 + (v : Int) % 256 = ((v % 65536 : Nat) : Int) := by omega

set_option maxHeartbeats 1000000 in
theorem top_any (v : Nat) (hv : v < 4294967296) (w : World) :
    Calls Yba.prog 12 #[.agg (idv v)] w fun e w' => e = .returned (.int .u64 ((v / 65536 : Nat) : Int)) ∧ Below w.heap.size w w' := by
  go_enter Yba.func12, Yba.ntmps12
  go_wp2
  refine wp_region_pick [0, 1] [2, 3] [0, 1] (fun _ => True) (by kernel_rfl) (by kernel_rfl) (fun _ _ d _ _ h => by cases d <;> exact h) trivial ?_
  iterate 2 (refine wpHead_cons (v := ?_) rfl (by rfl) ?_ ?_; rotate_left 1; (focus (intro w0 hS0; go_simp; first | done | with_reducible rfl)); simp only [Act.put, List.setIfInBounds_toArray, List.set_cons_zero, List.set_cons_succ])
  refine wpHead_nil ?_
  refine wpTail_list _ _ _ rfl ?_
  simp only [List.filterMap_cons, List.filterMap_nil, List.getElem?_cons_succ, List.getElem?_cons_zero]
  go_wp2_with fail
  have hb := heap_alloc_new w (.cells (idv v) 30)
  refine (u64_low w.heap.size 0 _ _ ((v : Int) / 16777216) ((v : Int) / 65536 % 256) _ (by omega) (by omega) (by omega) (by omega) (by omega) (by exact cell_heap hb rfl) (by exact cell_heap hb rfl) (by exact cell_heap hb rfl) (by exact cell_heap hb rfl) (by exact cell_heap hb rfl) (by exact cell_heap hb rfl) (by exact cell_heap hb rfl) (by exact cell_heap hb rfl)).mono ?_
  rintro e w1 ⟨rfl, hb1⟩
  rw [idv_top v]
  go_wp2
  go_ret
  exact ⟨rfl, ((Below.refl _ _).alloc (Nat.le_refl _) _).drew.trans (hb1.mono (by simp))⟩
end Go.Proofs.Ybulkdzha
