/-
  append(s[:i], make([]T, m)...) that grows, and copy at offsets: elements of whatever size.
-/
import Derived.Test.YbulkdzhaKit
import Derived.OwnWalk
namespace Go.Proofs.Ybulkdzha
open Go Go.RowKit

/-- The growing arm: the first i elements, then zeros. -/
theorem run_append_zeros_grow {P : Program} (w : World) (t tn ty e : TypeId) (i : TypeInfo) (z : Value) (kn : IntKind) (ht : P.underlying t = some (.slice e)) (htn : P.underlying tn = some (.int kn)) (hi : P.info? e = some i) (hz : i.zero = some z) (hs0 : 0 < i.size)
    (g len cap m : Nat) (xs : List Value) (hxs : xs.length = len * i.size) (hcell : ∀ j u, xs[j]? = some u → w.cell? ((⟨g, 0, none⟩ : Addr).add j) = some u) (hm : 0 < m) (hgrow : cap < len + m)
    (h63 : len + m ≤ maxLen) (hbytes : (len + m) * i.bytes ≤ 140737488355328) :
    (Builtin.append_ #[t, tn] ty #[.slice (some ⟨g, 0, none⟩) len cap, .int .i64 m]).run P w =
      .ok (.slice (some ⟨w.heap.size, 0, none⟩) (len + m) (grownCap w (len + m) cap e)) (w.drew.alloc (.cells (xs.toArray ++ Builtin.zeroCells z.cells m ++ Builtin.zeroCells z.cells (grownCap w (len + m) cap e - (len + m))) e)) := by
  have hsmall : len + m ≤ 9223372036854775807 := by simp only [maxLen] at h63; omega
  have hmb : m * i.bytes ≤ 140737488355328 := Nat.le_trans (Nat.mul_le_mul_right _ (by omega)) hbytes
  have hw : IntKind.i64.wrap (m : Int) = m := by rw [IntKind.wrap_i64]; omega
  have h48i : ¬ (281474976710656 < (m : Int) * (i.bytes : Int)) := by
    rw [← Int.natCast_mul]
    omega
  have hneg : ¬ ((m : Int) < 0) := by omega
  have hns : ¬ (m * i.size = 0) := Nat.mul_ne_zero (by omega) (by omega)
  have hroom : ¬ (len + m ≤ cap) := by omega
  have hfo := run_firstCells_some (P := P) w.drew i.size len ⟨g, 0, none⟩ len cap xs hxs (by simpa using hcell)
  have h63' : ¬ (9223372036854775807 < ((len : Int) + (m : Int))) := by omega
  have h48' : ¬ (281474976710656 < Builtin.nextslicecap (len + m) cap * i.bytes) := by have := growslice_fits (old := cap) (need := len + m) (by omega) hbytes; omega
  simp [Builtin.append_, run_underlying ht, run_underlying htn, sizeOf, typeInfo, zeroValue, hi, hz, hw, h48i, hneg, hns, asInt, asIntOf, hroom, h63', h48', Question.forced, hfo, newRow, grownCap]
/-- copy(dst, src) from and to the middle of two blocks: n elements, whatever their size. -/
theorem copy_at {P : Program} (w : World) (dT sT ty elem : TypeId) (i : TypeInfo) (g o s p a b n c1 c2 : Nat) (cur cs : Array Value) (t : TypeId) (hn : Nat.min b a = n)
    (hu : P.underlying dT = some (.slice elem)) (hi : P.info? elem = some i)
    (hg : w.heap[g]? = some (.cells cur t (0, 0))) (hs : ∀ j v, cs[j]? = some v → w.cell? ⟨s, p + j, none⟩ = some v) (h1 : o + n * i.size ≤ cur.size) (h2 : cs.size = n * i.size) (ho : ∀ v ∈ cs.toList, v.oneCell' = true) :
    ∃ w' cur', (Builtin.copy_ #[dT, sT] ty #[.slice (some ⟨g, o, none⟩) a c1, .slice (some ⟨s, p, none⟩) b c2]).run P w = .ok (goInt n) w' ∧ w'.heap[g]? = some (.cells cur' t (0, 0)) ∧ cur'.size = cur.size ∧
      (∀ j, cur'[j]? = if o ≤ j ∧ j < o + n * i.size then cs[j - o]? else cur[j]?) ∧ (∀ k, k ≠ g → w'.heap[k]? = w.heap[k]?) ∧ w'.heap.size = w.heap.size ∧ ∀ B, B ≤ g → Below B w w' := by
  have hl := run_firstCells_some (P := P) w i.size n ⟨s, p, none⟩ b c2 cs.toList (by simpa using h2) (by
    intro j v hv
    have hadd : (⟨s, p, none⟩ : Addr).add j = ⟨s, p + j, none⟩ := by unfold Addr.add; split <;> simp_all
    rw [hadd]
    exact hs j v (by simpa using hv))
  have hst := run_storeCells_at P g o t cs.toList 0 cur w hg (by simp; omega) ho
  simp only [Nat.add_zero] at hst
  refine ⟨_, (cur.toList.take o ++ cs.toList ++ cur.toList.drop (o + cs.toList.length)).toArray, ?_, setRow_heap w g cur _ t _ hg, ?_, fun j => ?_, fun k hk => setRow_other w g k _ hk, by simp [World.setRow], fun _ hB => below_setRow (Below.refl _ _) hB _⟩
  · simp [Builtin.copy_, run_underlying hu, Builtin.lenOf, sizeOf, typeInfo, hi, hn, hl, hst]
  · simp; omega
  · have hcl : cs.toList.length = n * i.size := by simpa using h2
    have hol : (cur.toList.take o).length = o := by simp; omega
    simp only [List.getElem?_toArray]
    by_cases hj : o ≤ j ∧ j < o + n * i.size
    · rw [if_pos hj, List.append_assoc, List.getElem?_append_right (by omega), hol, List.getElem?_append_left (by omega)]
      simp
    · rw [if_neg hj]
      by_cases hjo : j < o
      · rw [List.append_assoc, List.getElem?_append_left (by omega), List.getElem?_take_of_lt hjo]
        simp
      · rw [List.append_assoc, List.getElem?_append_right (by omega), hol, List.getElem?_append_right (by omega), List.getElem?_drop, hcl, show o + n * i.size + (j - o - n * i.size) = j by omega]
        simp
end Go.Proofs.Ybulkdzha
