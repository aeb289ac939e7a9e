/-
  slices.Clone and slices.Equal at []int64.
-/
import Derived.Test.YbulkdzhoBucket
import Derived.Test.YbulkdzhoZeros
import Derived.Deep.DeepCutAuto
import Derived.Deep.CutBlock
import Derived.Lib.SliceRun
import Derived.WalkSmall
namespace Go.Proofs.Ybulkdzho
open Go Go.RowKit

def vals (zs : List Int) : List Value := zs.map (Value.int .i64)
theorem vals_length (zs : List Int) : (vals zs).length = zs.length := by simp [vals]
theorem vals_one (zs : List Int) : ∀ u ∈ vals zs, u.oneCell' = true := ints_oneCell .i64 zs
theorem vals_at {zs : List Int} {j : Nat} (h : j < zs.length) : (vals zs)[j]? = some (.int .i64 (zs.getD j 0)) := by
  simp [vals, h]
theorem info2 : (Yba.prog.info? 2).map (fun i => (i.zero, i.size, i.bytes)) = some (some (.int .i64 0), 1, 8) := by kernel_rfl

/-- A slice that came in: its numbers. -/
def Came (w : World) (a0 : Option Addr) (zs : List Int) : Prop := (a0 = none ∧ zs = []) ∨ ∃ a, a0 = some a ∧ ∀ j, j < zs.length → w.cell? (a.add j) = some (.int .i64 (zs.getD j 0))

theorem owns_base {w : World} {b b' : Nat} {e : TypeId} {size : Nat} {v : Value} {n : Nat} {xs : List Value} (h : w.ownsRow b e size v n xs) (hb : b' ≤ b) : w.ownsRow b' e size v n xs := by
  refine ⟨h.1, ?_⟩
  rcases h.2 with h0 | ⟨g, cap, cur, h1, h2, h3⟩
  · exact .inl h0
  · exact .inr ⟨g, cap, cur, h1, by omega, h3⟩
theorem below_grown {B : Nat} {w w1 w2 : World} {row : Option Nat} (h : Below B w w1) (hg : w1.grownBy w2 row) (hB : B ≤ w1.heap.size) (hr : ∀ k, row = some k → B ≤ k) : Below B w w2 :=
  h.trans ⟨hg.os, hg.tape, hg.output, hg.size, fun k hk => hg.block k (by omega) (fun e => by have := hr k e.symm; omega)⟩

set_option maxHeartbeats 1000000 in
theorem clone_any (base : Nat) (a0 : Option Addr) (cp : Nat) (zs : List Int) (w : World) (hc : Came w a0 zs) (hz : zs.length ≤ 1048576) (hb : base ≤ w.heap.size) :
    Calls Yba.prog 4 #[.slice a0 zs.length cp] w fun e w' => ∃ v, e = .returned v ∧ w'.ownsRow base 2 1 v zs.length (vals zs) ∧ (∀ k, v.ownBlock = some k → w.heap.size ≤ k) ∧ Below w.heap.size w w' := by
  obtain ⟨i0, hi, hz0, hz1, hz2⟩ := info_parts info2
  have hnil := fun (w : World) (a : Option Addr) (n c : Nat) => Lib.run_eql_slice_nil (P := Yba.prog) w 22 2 a n c 0 0 Yba.underlying22
  rcases hc with ⟨rfl, rfl⟩ | ⟨a, rfl, hcell⟩
  · go_enter Yba.func4, Yba.ntmps4
    go_wp2_with fail
    go_ret
    exact ⟨_, rfl, World.ownsRow_nil _ _ _ _, fun k hk => by simp [Value.ownBlock] at hk, Below.refl _ _⟩
  · go_enter Yba.func4, Yba.ntmps4
    go_wp2_with (at_builtin; refine wpList_append_own _ rfl _ _ 22 rfl w.heap.size 2 i0 _ 1 8 Yba.underlying22 hi hz0 hz1 hz2 rfl (by omega) (.slice (some ⟨w.heap.size, 0, none⟩) 0 0) 0 [] rfl (by exact World.ownsRow_made w #[] 0 (Nat.le_refl _) (by unfold maxLen; omega) rfl) a zs.length cp (vals zs) rfl (by rw [vals_length, Nat.mul_one]) (by
        intro j u hu
        have hj : j < zs.length := by have := (List.getElem?_eq_some_iff.1 hu).1; rwa [vals_length] at this
        rw [vals_at hj] at hu
        exact cell_below ((Below.refl _ _).alloc (Nat.le_refl _) _) ((hcell j hj).trans hu)) (vals_one zs) (by unfold maxLen; omega) (by omega) (by simp) ?_; intro v w2 hown hgr hnil2)
    go_ret
    simp only [Nat.zero_add, List.nil_append] at hown
    exact ⟨_, rfl, owns_base hown hb, fun k hk => (hown.lt k hk).1, below_grown ((Below.refl _ _).alloc (Nat.le_refl _) _) hgr (by simp) (fun k hk => by simp [Value.ownBlock] at hk; omega)⟩
theorem came_of_owns {w : World} {base n : Nat} {v : Value} {zs : List Int} (h : w.ownsRow base 2 1 v n (vals zs)) : ∃ a0 cap, v = .slice a0 zs.length cap ∧ Came w a0 zs := by
  have hl : zs.length = n := by have := h.1; rw [vals_length] at this; omega
  rcases h.2 with ⟨rfl, rfl⟩ | ⟨g, cap, cur, rfl, _⟩
  · exact ⟨none, 0, by rw [hl], .inl ⟨rfl, List.eq_nil_of_length_eq_zero hl⟩⟩
  · refine ⟨some ⟨g, 0, none⟩, cap, by rw [hl], .inr ⟨_, rfl, fun j hj => ?_⟩⟩
    exact h.cells (g := g) rfl j _ (vals_at hj)
theorem Came.below {w w' : World} {a0 : Option Addr} {zs : List Int} (h : Came w a0 zs) (hb : Below w.heap.size w w') : Came w' a0 zs := by
  rcases h with h | ⟨a, h1, h2⟩
  · exact .inl h
  · exact .inr ⟨a, h1, fun j hj => cell_below hb (h2 j hj)⟩

set_option maxHeartbeats 1000000 in
theorem equal_any (a0 b0 : Option Addr) (c1 c2 : Nat) (zs : List Int) (w : World) (hx : Came w a0 zs) (hy : Came w b0 zs) (hz : zs.length ≤ 2097152) :
    Calls Yba.prog 8 #[.slice a0 zs.length c1, .slice b0 zs.length c2] w fun e w' => e = .returned (.bool true) ∧ Below w.heap.size w w' := by
  have hne : ((zs.length : Int) != (zs.length : Int)) = false := by simp
  go_enter Yba.func8, Yba.ntmps8
  go_wp2_with fail
  go_loopw [13] (fun i wr => ∃ k : Nat, k ≤ zs.length ∧ i = .int .i64 (k : Int) ∧ Below w.heap.size w wr) (fun i _ => zs.length - (intOf i).toNat)
  case atStart => exact ⟨0, by omega, rfl, Below.refl _ _⟩
  case round =>
    obtain ⟨k, hk, rfl, hbel⟩ := hrel
    by_cases hlt : k < zs.length
    · obtain ⟨x, hxv⟩ : ∃ x, zs.getD k 0 = x := ⟨_, rfl⟩
      rcases hx with ⟨_, rfl⟩ | ⟨a, rfl, hx⟩
      · simp at hlt
      rcases hy with ⟨_, rfl⟩ | ⟨b, rfl, hy⟩
      · simp at hlt
      have e1 := cell_below hbel (hx k hlt)
      have e2 := cell_below hbel (hy k hlt)
      rw [hxv] at e1 e2
      have hxx : (x != x) = false := by simp
      clear hx hy hxv
      go_wp2_with fail
      go_quiet (fail)
      go_wp2_with fail
      go_roundw
      case rel => exact ⟨k + 1, by omega, by go_num, below_drewN hbel _⟩
      case measure => simp [intOf]; omega
    · obtain rfl : k = zs.length := by omega
      go_wp2_with fail
      go_ret
      exact ⟨rfl, hbel⟩
end Go.Proofs.Ybulkdzho
