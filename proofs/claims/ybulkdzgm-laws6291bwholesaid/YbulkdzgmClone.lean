/-
  THE WALKS of slices.Clone and of queueLocked.
-/
import Derived.Test.YbulkdzgmSmall
import Derived.Lib.SliceRun
namespace Go.Proofs.Ybulkdzgm
open Go Go.RowKit

/-- What Clone leaves: the same pointers in a row of its own. -/
def Cloned (m : Nat) (PB f : Nat → Nat) (w : World) (e : Ending) (w' : World) : Prop := ∃ v', e = .returned v' ∧ w'.ownsRow w.heap.size 41 1 v' m (ptrs PB f m) ∧ Below w.heap.size w w'

set_option maxRecDepth 100000 in
set_option maxHeartbeats 1000000 in
theorem clone_any (m base : Nat) (v : Value) (PB f : Nat → Nat) (w : World) (hm : m ≤ 1000) (hv : w.ownsRow base 41 1 v m (ptrs PB f m)) :
    Calls Yba.prog 7 #[v] w fun e w' => Cloned m PB f w e w' := by
  obtain ⟨i0, hi, hz0, hz1, hz2⟩ := info_parts info41'
  have hnil := fun (w : World) (a : Option Addr) (n c : Nat) => Lib.run_eql_slice_nil (P := Yba.prog) w 35 41 a n c 0 0 Yba.underlying35
  rcases hv.2 with ⟨rfl, rfl⟩ | ⟨g, cap, cur, rfl, h1, h2, h3, h4, h5, h6⟩
  · go_enter Yba.func7, Yba.ntmps7
    go_wp2_with fail
    go_ret
    exact ⟨_, rfl, World.ownsRow_nil _ _ _ _, Below.refl _ _⟩
  · have hcells : ∀ j u, (ptrs PB f m)[j]? = some u → w.cell? ((⟨g, 0, none⟩ : Addr).add j) = some u := hv.cells (g := g) rfl
    have HC : Hid (∀ j u, (ptrs PB f m)[j]? = some u → (w.alloc (.cells #[] 41)).cell? ((⟨g, 0, none⟩ : Addr).add j) = some u) := fun j u hu => cell_below ((Below.refl _ _).alloc (Nat.le_refl _) _) (hcells j u hu)
    have H1 : Hid (∀ u ∈ ptrs PB f m, u.oneCell' = true) := fun u hu => by
      simp only [ptrs, List.mem_map] at hu
      obtain ⟨_, _, rfl⟩ := hu
      rfl
    clear hv h1 h2 h3 h4 h5 h6 hcells
    go_enter Yba.func7, Yba.ntmps7
    go_wp2_with (at_builtin; refine wpList_append_own _ rfl _ _ 35 rfl w.heap.size 41 i0 _ 1 8 Yba.underlying35 hi hz0 hz1 hz2 rfl (by omega) (.slice (some ⟨w.heap.size, 0, none⟩) 0 0) 0 [] rfl (by exact World.ownsRow_made w #[] 0 (Nat.le_refl _) (by unfold maxLen; omega) rfl) ⟨g, 0, none⟩ m cap (ptrs PB f m) rfl (by rw [ptrs_length, Nat.mul_one]) HC.out H1.out (by unfold maxLen; omega) (by omega) (by simp) ?_; intro v1 w1 ho1 hg1 hn1)
    go_ret
    simp only [Nat.zero_add, List.nil_append] at ho1
    refine ⟨_, rfl, ho1, ((Below.refl _ _).alloc (Nat.le_refl _) _).trans ⟨hg1.os, hg1.tape, hg1.output, hg1.size, fun k hk => hg1.block k (by simp; omega) (fun e => by simp [Value.ownBlock] at e; omega)⟩⟩

/-- What queueLocked leaves. -/
def Queued (D o m base q : Nat) (X : Nat → Item) (PB f : Nat → Nat) (x : Nat) (v : Value) (Dc : Array Value) (w w' : World) : Prop :=
  ∃ v' f', w'.heap[D]? = some (.cells ((Dc.setIfInBounds 8 (.int .u64 ((q : Int) + 1))).setIfInBounds o v') 38 (0, 0)) ∧ w'.heap[PB x]? = some (.cells ((X x).cells x) 49 (0, 0)) ∧ w'.ownsRow base 41 1 v' (m + 1) (ptrs PB f' (m + 1)) ∧
    (v'.ownBlock = v.ownBlock ∨ ∃ k, v'.ownBlock = some k ∧ w.heap.size ≤ k) ∧ Chg (fun b => b = D ∨ b = PB x ∨ v.ownBlock = some b) w w' ∧ Perm (m + 1) (ext f m x) f' ∧ (Heap X f m → Heap X f' (m + 1))

set_option maxRecDepth 100000 in
set_option maxHeartbeats 1000000 in
theorem queue_any (D m base q x : Nat) (ans : Bool) (X : Nat → Item) (PB f : Nat → Nat) (v : Value) (Dc c0 : Array Value) (w : World) (hm : m ≤ 900) (hq : q ≤ 1000) (hD : w.heap[D]? = some (.cells Dc 38 (0, 0))) (h8 : Dc[8]? = some (.int .u64 q)) (hv : Dc[if ans then 6 else 7]? = some v)
    (hown : w.ownsRow base 41 1 v m (ptrs PB f m)) (hbase : base ≤ w.heap.size) (hx : w.heap[PB x]? = some (.cells c0 49 (0, 0))) (hx5 : c0[5]? = some (.bool ans)) (hx7 : ∃ y, c0[7]? = some (.int .u64 y)) (hxc : c0.setIfInBounds 7 (.int .u64 q) = (X x).cells x)
    (hitem : ∀ k, k < m → w.heap[PB (f k)]? = some (.cells ((X (f k)).cells (f k)) 49 (0, 0)) ∧ PB (f k) ≠ PB x) :
    Calls Yba.prog 6 #[.pointer (some ⟨D, 0, none⟩), .pointer (some ⟨PB x, 0, none⟩)] w fun e w' => e = .returned (.tuple #[]) ∧ Queued D (if ans then 6 else 7) m base q X PB f x v Dc w w' := by
  have hDx : D ≠ PB x := fun e => by rw [← e, hD] at hx; simp at hx
  obtain ⟨y, hx7⟩ := hx7
  have c1 := cell_heap hD h8
  have c2 := cell_heap hx hx7
  have c3 := frozen_heap (o := 7) hx
  have c6 := cell_heap hx hx5
  have hx1 := heap_setCell_same (o := 7) hx (.int .u64 q)
  rw [hxc] at hx1
  have hD1 : (w.setCell ⟨PB x, 7, none⟩ (.int .u64 q)).heap[D]? = some (.cells Dc 38 (0, 0)) := (Below.heap_setCell _ _ _ _ hDx).trans hD
  have c4 := cell_heap hD1 h8
  have c5 := frozen_heap (o := 8) hD1
  have hD2 := heap_setCell_same (o := 8) hD1 (.int .u64 ((q : Int) + 1))
  obtain ⟨w1, hw1⟩ : ∃ w1, w1 = (w.setCell ⟨PB x, 7, none⟩ (.int .u64 q)).setCell ⟨D, 8, none⟩ (.int .u64 ((q : Int) + 1)) := ⟨_, rfl⟩
  have hx2 : w1.heap[PB x]? = some (.cells ((X x).cells x) 49 (0, 0)) := by rw [hw1]; exact (Below.heap_setCell _ _ _ _ (fun e => hDx e.symm)).trans hx1
  rw [← hw1] at hD2
  have hkeep : ∀ b, b ≠ D → b ≠ PB x → w1.heap[b]? = w.heap[b]? := fun b h1 h2 => by rw [hw1]; exact (Below.heap_setCell _ _ _ _ h1).trans (Below.heap_setCell _ _ _ _ h2)
  have hs1 : w1.heap.size = w.heap.size := by rw [hw1]; simp [World.setCell]
  have hown1 : w1.ownsRow base 41 1 v m (ptrs PB f m) := own_heap hown (fun k hk => hkeep k (fun e => own_ne hown hD (by decide) (e ▸ hk)) (fun e => own_ne hown hx (by decide) (e ▸ hk)))
  have hit1 : ∀ k, k < m + 1 → w1.heap[PB (ext f m x k)]? = some (.cells ((X (ext f m x k)).cells (ext f m x k)) 49 (0, 0)) := fun k hk => by
    unfold ext
    split
    · exact hx2
    · obtain ⟨h1, h2⟩ := hitem k (by omega)
      rw [hkeep _ (fun e => by rw [e, hD] at h1; simp at h1) h2]; exact h1
  have hx5' : w1.cell? ⟨PB x, 5, none⟩ = some (.bool ans) := by
    refine cell_heap hx2 ?_
    rw [← hxc, Array.getElem?_setIfInBounds_ne (by omega)]; exact hx5
  have hc1 : Chg (fun b => b = D ∨ b = PB x ∨ v.ownBlock = some b) w w1 := ⟨by omega, fun b _ hp => hkeep b (fun e => hp (.inl e)) (fun e => hp (.inr (.inl e))), fun B _ hp => by
    rw [hw1]; exact ((Below.refl _ _).setCell (hp _ (.inr (.inl rfl))) _).setCell (hp _ (.inl rfl)) _⟩
  have HW := Hid.mk hw1
  have HC := Hid.mk hc1
  have HD2 := Hid.mk hD2
  have HO := Hid.mk hown1
  have HI := Hid.mk hit1
  have hwq : IntKind.u64.wrap ((q : Int) + 1) = (q : Int) + 1 := by simp [IntKind.wrap, IntKind.bits, IntKind.signed]; omega
  have HV : Hid ((Dc.setIfInBounds 8 (.int .u64 ((q : Int) + 1)))[if ans then 6 else 7]? = some v) := by
    show _ = _
    rw [Array.getElem?_setIfInBounds_ne (by split <;> omega)]; exact hv
  have hfin : ∀ w', HPushed D (if ans then 6 else 7) m base X PB f x v (Dc.setIfInBounds 8 (.int .u64 ((q : Int) + 1))) w1 w' → Queued D (if ans then 6 else 7) m base q X PB f x v Dc w w' := fun w' h => by
    obtain ⟨v', f', h1, h2, h3, h4, h5, h6⟩ := h
    refine ⟨v', f', h1, ?_, h2, ?_, hc1.trans (h4.mono (fun b hb => by rcases hb with h | h; exact .inl h; exact .inr (.inr h))), h5, h6⟩
    · rw [h4.block _ (lt_of_heap hx2) (fun h => by
        rcases h with h | h
        · exact hDx h.symm
        · exact own_ne hown1 hx2 (by decide) h)]
      exact hx2
    · rw [← hs1]; exact h3
  have HF := Hid.mk hfin
  clear hD h8 hv hown hx hx5 hx7 hxc hitem hx1 hD1 hD2 hx2 hkeep hown1 hit1 hc1 hfin
  go_enter Yba.func6, Yba.ntmps6
  cases ans
  · go_wp2_with fail
    rw [← HW.out]
    refine (hpush_any D 7 m base x X PB f v _ w1 (by omega) HD2.out HV.out HO.out (by omega) HI.out).mono ?_
    rintro e w2 ⟨rfl, hp⟩
    have HP := Hid.mk hp
    clear hp
    go_wp2_with fail
    go_end0
    exact ⟨rfl, HF.out _ HP.out⟩
  · go_wp2_with fail
    rw [← HW.out]
    refine (hpush_any D 6 m base x X PB f v _ w1 (by omega) HD2.out HV.out HO.out (by omega) HI.out).mono ?_
    rintro e w2 ⟨rfl, hp⟩
    have HP := Hid.mk hp
    clear hp
    go_wp2_with fail
    go_end0
    exact ⟨rfl, HF.out _ HP.out⟩
end Go.Proofs.Ybulkdzgm
