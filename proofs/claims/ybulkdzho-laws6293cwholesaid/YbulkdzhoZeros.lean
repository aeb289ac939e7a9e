/-
  append(s, make([]T, m)...) on a row of its own: m zeros come behind what was there.
-/
import Derived.Test.YbulkdzhoKit
import Derived.Lib.AppendZeros
import Derived.OwnWalk
namespace Go.Proofs.Ybulkdzho
open Go Go.RowKit

theorem zeroCells_one (z : Value) (n : Nat) : Builtin.zeroCells #[z] n = Array.replicate n z := by
  apply Array.ext_getElem?
  intro j
  simp only [Builtin.zeroCells, List.size_toArray, List.length_cons, List.length_nil, Nat.zero_add, Nat.mul_one, Nat.mod_one]
  by_cases hj : j < n
  · simp [hj]
  · simp [hj]

/-- THE LAW. -/
theorem run_append_zeros_own {P : Program} (w : World) (base : Nat) (t tn ty e : TypeId) (i : TypeInfo) (z : Value) (kn : IntKind) (bytes : Nat) (ht : P.underlying t = some (.slice e)) (htn : P.underlying tn = some (.int kn)) (hi : P.info? e = some i) (hz : i.zero = some z)
    (hsize : i.size = 1) (hby : i.bytes = bytes) (hzs : z.cells = #[z]) (hz1 : z.oneCell' = true)
    (v : Value) (n : Nat) (xs : List Value) (hown : w.ownsRow base e 1 v n xs) (m : Nat) (hm : 0 < m)
    (h63 : n + m ≤ maxLen) (hbytes : (n + m) * bytes ≤ 140737488355328) (hbase : base ≤ w.heap.size) :
    ∃ v' w', (Builtin.append_ #[t, tn] ty #[v, .int .i64 m]).run P w = .ok v' w' ∧ w'.ownsRow base e 1 v' (n + m) (xs ++ List.replicate m z) ∧ w.grownBy w' v.ownBlock ∧ (v'.ownBlock = v.ownBlock ∨ v'.ownBlock = some w.heap.size) := by
  subst hby
  have hxl : xs.length = n := by simpa using hown.1
  have hsmall : n + m ≤ 9223372036854775807 := by simp only [maxLen] at h63; omega
  have hlen : (xs ++ List.replicate m z).length = (n + m) * 1 := by simp [hxl]
  have hmb : m * i.bytes ≤ 140737488355328 := Nat.le_trans (Nat.mul_le_mul_right _ (by omega)) hbytes
  have hw : IntKind.i64.wrap (m : Int) = m := by rw [IntKind.wrap_i64]; omega
  have h48i : ¬ (281474976710656 < (m : Int) * (i.bytes : Int)) := by
    rw [← Int.natCast_mul]
    omega
  have hneg : ¬ ((m : Int) < 0) := by omega
  have hm0 : m ≠ 0 := by omega
  have grown : ∀ (old : Nat), old < n + m → ∀ (row : Option Nat),
      (w.drew.alloc (.cells (xs.toArray ++ Array.replicate m z ++ Array.replicate (grownCap w (n + m) old e - (n + m)) z) e)).ownsRow base e 1
        (.slice (some ⟨w.heap.size, 0, none⟩) (n + m) (grownCap w (n + m) old e)) (n + m) (xs ++ List.replicate m z) ∧
      w.grownBy (w.drew.alloc (.cells (xs.toArray ++ Array.replicate m z ++ Array.replicate (grownCap w (n + m) old e - (n + m)) z) e)) row := by
    intro old ho row
    have hge := grownCap_ge w (n + m) old e
    have hcm : grownCap w (n + m) old e ≤ maxLen := grownCap_le_maxLen w (n + m) old e h63
    refine ⟨⟨hlen, .inr ⟨w.heap.size, _, _, rfl, hbase, heap_alloc_new w.drew _, hge, hcm, ?_, ?_⟩⟩, ⟨rfl, rfl, rfl, by simp, fun k hk _ => Below.heap_alloc w.drew _ k hk⟩⟩
    · simp [hxl]; omega
    · rw [Array.toList_append, Array.toList_append, Array.toList_replicate, ← hlen]
      exact List.take_left
  rcases hown.2 with ⟨rfl, rfl⟩ | ⟨g, cap, cur, rfl, hbg, hg, hnc, hcm, hcs, htake⟩
  · have hx : xs = [] := List.eq_nil_of_length_eq_zero hxl
    subst hx
    have hr := Go.Lib.run_append_nil_zeros (P := P) w t tn ty e i z .i64 kn ht htn hi hz m hm (by omega) (by omega) (by omega)
    rw [hzs, zeroCells_one, zeroCells_one] at hr
    have hgr := grown 0 (by omega) (Value.ownBlock (.slice none 0 0))
    simp only [Nat.zero_add, List.nil_append, Array.empty_append] at hgr ⊢
    exact ⟨_, _, hr, hgr.1, hgr.2, .inr rfl⟩
  · by_cases hroom : n + m ≤ cap
    · have hst := run_storeCells_at P g n e (List.replicate m z) 0 cur w hg (by simp; omega) (fun v hv => by rw [(List.mem_replicate.1 hv).2]; exact hz1)
      simp only [Nat.add_zero] at hst
      have hr : (Builtin.append_ #[t, tn] ty #[.slice (some ⟨g, 0, none⟩) n cap, .int .i64 m]).run P w =
          .ok (.slice (some ⟨g, 0, none⟩) (n + m) cap) (w.setRow g (cur.toList.take n ++ List.replicate m z ++ cur.toList.drop (n + m)).toArray) := by
        simp [Builtin.append_, run_underlying ht, run_underlying htn, sizeOf, typeInfo, zeroValue, hi, hz, hsize, hzs, zeroCells_one, hw, h48i, hneg, hm0, asInt, asIntOf, hroom, Addr.add_lit]
        rw [hst]
        simp
      refine ⟨_, _, hr, ⟨hlen, .inr ⟨g, cap, _, rfl, hbg, setRow_heap w g cur _ e _ hg, hroom, hcm, ?_, ?_⟩⟩, ⟨rfl, rfl, rfl, by simp, fun k _ hk => setRow_other w g k _ (fun e => hk (by simp [Value.ownBlock, e]))⟩, .inl rfl⟩
      · simp; omega
      · simp only [Nat.mul_one] at htake
        rw [htake, ← hlen]
        exact List.take_left
    · have holds : ∀ j u, xs[j]? = some u → w.cell? ((⟨g, 0, none⟩ : Addr).add j) = some u := hown.cells (g := g) rfl
      have hfo := run_firstCells_some (P := P) w.drew i.size n ⟨g, 0, none⟩ n cap xs (by rw [hsize, hxl, Nat.mul_one]) (by simpa using holds)
      have h63' : ¬ (9223372036854775807 < ((n : Int) + (m : Int))) := by omega
      have h48' : ¬ (281474976710656 < Builtin.nextslicecap (n + m) cap * i.bytes) := by have := growslice_fits (old := cap) (need := n + m) (by omega) hbytes; omega
      rw [hsize] at hfo
      have hr : (Builtin.append_ #[t, tn] ty #[.slice (some ⟨g, 0, none⟩) n cap, .int .i64 m]).run P w =
          .ok (.slice (some ⟨w.heap.size, 0, none⟩) (n + m) (grownCap w (n + m) cap e)) (w.drew.alloc (.cells (xs.toArray ++ Array.replicate m z ++ Array.replicate (grownCap w (n + m) cap e - (n + m)) z) e)) := by
        simp [Builtin.append_, run_underlying ht, run_underlying htn, sizeOf, typeInfo, zeroValue, hi, hz, hsize, hzs, zeroCells_one, hw, h48i, hneg, hm0, asInt, asIntOf, hroom, h63', h48', Question.forced, hfo, newRow, grownCap]
      have hgr := grown cap (by omega) (Value.ownBlock (.slice (some ⟨g, 0, none⟩) n cap))
      exact ⟨_, _, hr, hgr.1, hgr.2, .inr rfl⟩
end Go.Proofs.Ybulkdzho
