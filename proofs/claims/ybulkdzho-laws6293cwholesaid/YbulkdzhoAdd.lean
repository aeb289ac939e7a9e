/-
  THE WALK of (*histogram).add.
-/
import Derived.Test.YbulkdzhoLocks
namespace Go.Proofs.Ybulkdzho
open Go Go.RowKit

/-- The list with room for bucket j. -/
def room (zs : List Int) (j : Nat) : List Int := zs ++ List.replicate (j + 1 - zs.length) 0
/-- Bucket j counted once more. -/
def bump (zs : List Int) (j : Nat) : List Int := (room zs j).set j (wrap64 ((room zs j).getD j 0 + 1))
theorem room_length (zs : List Int) (j : Nat) : (room zs j).length = max zs.length (j + 1) := by simp [room]; omega
theorem bump_length (zs : List Int) (j : Nat) : (bump zs j).length = max zs.length (j + 1) := by simp [bump, room_length]
theorem room_of_lt {zs : List Int} {j : Nat} (h : j < zs.length) : room zs j = zs := by
  unfold room; rw [show j + 1 - zs.length = 0 by omega]; simp
theorem vals_set (zs : List Int) (j : Nat) (x : Int) : vals (zs.set j x) = (vals zs).set j (.int .i64 x) := by simp [vals, List.map_set]

/-- All but the blocks of S is as it was. -/
structure Kept (w w' : World) (S : Nat → Prop) : Prop where
  os : w'.os = w.os
  tape : w'.tape = w.tape
  output : w'.output = w.output
  size : w.heap.size ≤ w'.heap.size
  block : ∀ k, k < w.heap.size → ¬ S k → w'.heap[k]? = w.heap[k]?
theorem Kept.refl (w : World) (S : Nat → Prop) : Kept w w S := ⟨rfl, rfl, rfl, Nat.le_refl _, fun _ _ _ => rfl⟩
theorem Kept.trans {a b c : World} {S S' : Nat → Prop} (h : Kept a b S) (k : Kept b c S') (hs : ∀ i, i < a.heap.size → S' i → S i) : Kept a c S :=
  ⟨k.os.trans h.os, k.tape.trans h.tape, k.output.trans h.output, Nat.le_trans h.size k.size, fun i hi hn => (k.block i (Nat.lt_of_lt_of_le hi h.size) (fun e => hn (hs i hi e))).trans (h.block i hi hn)⟩
theorem Kept.of_grown {w w' : World} {row : Option Nat} (h : w.grownBy w' row) : Kept w w' (fun k => row = some k) := ⟨h.os, h.tape, h.output, h.size, fun k hk hn => h.block k hk (fun e => hn e.symm)⟩
theorem Kept.of_set (w : World) (b o : Nat) (v : Value) : Kept w (w.setCell ⟨b, o, none⟩ v) (fun k => k = b) := ⟨rfl, rfl, rfl, by simp, fun k _ hn => Below.heap_setCell _ _ _ _ hn⟩
theorem Kept.of_below {w w' : World} (h : Below w.heap.size w w') (S : Nat → Prop) : Kept w w' S := ⟨h.os, h.tape, h.output, h.size, fun k hk _ => h.block k hk⟩
theorem Kept.below {w w' : World} {S : Nat → Prop} (h : Kept w w' S) (B : Nat) (hB : B ≤ w.heap.size) (hS : ∀ k, S k → B ≤ k) : Below B w w' :=
  ⟨h.os, h.tape, h.output, h.size, fun k hk => h.block k (by omega) (fun e => by have := hS k e; omega)⟩

/-- The timings' block. -/
abbrev tim (s u : Int) (v : Value) (n : Int) : Array Value := #[.int .i32 s, .int .u32 u, v, .int .i64 n]

set_option maxRecDepth 100000 in
set_option maxHeartbeats 2000000 in
theorem hadd_any (T base : Nat) (s u hn : Int) (v : Value) (zs : List Int) (d : Nat) (hd : d < 9223372036854775808) (w : World) (hT : w.heap[T]? = some (.cells (tim s u v hn) 37 (0, 0)))
    (hown : w.ownsRow base 2 1 v zs.length (vals zs)) (hvT : v.ownBlock ≠ some T) (hz : zs.length ≤ 1050000) (hbase : base ≤ w.heap.size) :
    Calls Yba.prog 14 #[.pointer (some ⟨T, 2, none⟩), .int .i64 d] w fun e w' => e = .returned (.tuple #[]) ∧ ∃ v', w'.heap[T]? = some (.cells (tim s u v' (wrap64 (hn + 1))) 37 (0, 0)) ∧
      w'.ownsRow base 2 1 v' (bump zs (buck d)).length (vals (bump zs (buck d))) ∧ (v'.ownBlock = v.ownBlock ∨ ∃ k, v'.ownBlock = some k ∧ w.heap.size ≤ k) ∧ Kept w w' (fun k => k = T ∨ v.ownBlock = some k) := by
  obtain ⟨i0, hi, hz0, hz1, hz2⟩ := info_parts info2
  have hbl := buck_lt d hd
  obtain ⟨j, hj⟩ : ∃ j, buck d = j := ⟨_, rfl⟩
  have hTl := lt_of_heap hT
  go_enter Yba.func14, Yba.ntmps14
  go_wp2_with fail
  refine (bucket_any d hd _).mono ?_
  rintro e w1 ⟨rfl, h⟩
  subst w1
  rw [hj] at hbl ⊢
  have HJ := Hid.mk hj
  clear hd hj
  obtain ⟨b0, cap0, rfl, hcame⟩ := came_of_owns hown
  have e2 := cell_heap (o := 2) hT rfl
  have HT := Hid.mk hT
  have HO := Hid.mk hown
  have HV := Hid.mk hvT
  clear hT hown hvT hcame
  go_upto_if 13 with fail
  go_cut [] (fun wx => ∃ v1, wx.heap[T]? = some (.cells (tim s u v1 hn) 37 (0, 0)) ∧ wx.ownsRow base 2 1 v1 (room zs j).length (vals (room zs j)) ∧
    (v1.ownBlock = (Value.slice b0 zs.length cap0).ownBlock ∨ ∃ k, v1.ownBlock = some k ∧ w.heap.size ≤ k) ∧ Kept w wx (fun k => k = T ∨ (Value.slice b0 zs.length cap0).ownBlock = some k))
  case first =>
    by_cases hlt : j < zs.length
    · have hge : decide ((zs.length : Int) ≤ (j : Int)) = false := by simp; omega
      go_wp2_with fail
      go_meet
      exact ⟨_, HT.out, by rw [room_of_lt hlt]; exact HO.out, .inl rfl, Kept.refl _ _⟩
    · have hge : decide ((zs.length : Int) ≤ (j : Int)) = true := by simp; omega
      go_upto_region 2 with fail
      obtain ⟨m, hm⟩ : ∃ m : Nat, zs.length + m = j + 1 := ⟨j + 1 - zs.length, by omega⟩
      have hmi : (j : Int) + 1 - (zs.length : Int) = (m : Int) := by omega
      have hjw : IntKind.i64.wrap ((j : Int) + 1) = (j : Int) + 1 := by rw [IntKind.wrap_i64]; omega
      have hmw : IntKind.i64.wrap (m : Int) = (m : Int) := by rw [IntKind.wrap_i64]; omega
      obtain ⟨v1, w1, hrun, hown1, hgr1, hblk1⟩ := run_append_zeros_own (P := Yba.prog) w.drew base 22 3 22 2 i0 _ .i64 8 Yba.underlying22 Yba.underlying3 hi hz0 hz1 hz2 rfl rfl (Value.slice b0 zs.length cap0) zs.length (vals zs) HO.out.drew m (by omega) (by unfold maxLen; omega) (by omega) hbase
      obtain ⟨g1, cap1, cur1, rfl, hg1⟩ : ∃ g cap cur, v1 = .slice (some ⟨g, 0, none⟩) (zs.length + m) cap ∧ w1.heap[g]? = some (.cells cur 2 (0, 0)) := by
        rcases hown1.2 with ⟨_, h0⟩ | ⟨g, cap, cur, h1, _, h2, _⟩
        · omega
        · exact ⟨g, cap, cur, h1, h2⟩
      rw [hm] at hrun hown1
      have HBL : Hid ((Value.slice (some ⟨g1, 0, none⟩) (zs.length + m) cap1).ownBlock = (Value.slice b0 zs.length cap0).ownBlock ∨ (Value.slice (some ⟨g1, 0, none⟩) (zs.length + m) cap1).ownBlock = some w.heap.size) := hblk1
      clear hblk1
      have hT1 : w1.heap[T]? = some (.cells (tim s u (.slice b0 zs.length cap0) hn) 37 (0, 0)) := (hgr1.block T hTl (fun e => HV.out e.symm)).trans HT.out
      have hgT : g1 ≠ T := by
        intro e
        subst e
        rw [hT1] at hg1
        simp at hg1
      have e3 := cell_heap (o := 2) hT1 rfl
      have f3 := frozen_heap (o := 2) hT1
      refine wp_region_pick [0, 1, 2, 3, 4, 5, 6, 7, 8, 9, 10, 11, 12] [13, 14, 15, 16] [0, 1, 2, 3, 4, 5, 6, 7, 8, 9, 10, 11, 12, 13] (fun w' => w'.cell? ⟨T, 2, none⟩ = some (.slice b0 zs.length cap0)) (by kernel_rfl) (by kernel_rfl) (fun _ _ d _ _ h => by cases d <;> exact h) e2 ?_
      iterate 13 (refine wpHead_cons (v := ?_) rfl (by rfl) ?_ ?_; rotate_left 1; (focus (intro w0 hS0; go_simp; first | done | with_reducible rfl)); simp only [Act.put, List.setIfInBounds_toArray, List.set_cons_zero, List.set_cons_succ])
      refine wpHead_nil ?_
      refine wpTail_keep rfl (by rfl) (fun K hK => ?_)
      refine Go.Lib.wp_append_run _ _ _ 22 3 rfl (.slice b0 zs.length cap0) (.int .i64 m) rfl rfl (.slice (some ⟨g1, 0, none⟩) (j + 1) cap1) w1 hrun ?_
      refine hK.out _ _ e3 ?_
      clear hK K
      refine wpTail_list _ _ _ rfl ?_
      simp only [List.filterMap_cons, List.filterMap_nil, List.getElem?_cons_succ, List.getElem?_cons_zero]
      have HG1 := Hid.mk hg1
      have HT1 := Hid.mk hT1
      have HO1 := Hid.mk hown1
      have HGR := Hid.mk hgr1
      clear hrun hg1 hT1 hown1 hgr1
      go_wp2_with fail
      go_meet
      have hroomv : vals (room zs j) = vals zs ++ List.replicate m (.int .i64 0) := by
        unfold room vals
        rw [show j + 1 - zs.length = m by omega]; simp
      have hroomn : (room zs j).length = j + 1 := by rw [room_length]; omega
      refine ⟨.slice (some ⟨g1, 0, none⟩) (j + 1) cap1, heap_setCell_same HT1.out _, ?_, ?_, ?_⟩
      · rw [hroomv, hroomn]
        exact HO1.out.kept (row := some T) ⟨rfl, rfl, rfl, by simp, fun k _ hk => Below.heap_setCell _ _ _ _ (fun e => hk (by rw [e]))⟩ (.inr (by simp [Value.ownBlock]; exact hgT))
      · rcases HBL.out with h | h
        · exact .inl h
        · exact .inr ⟨_, h, Nat.le_refl _⟩
      · have k1 : Kept w w1 (fun k => k = T ∨ (Value.slice b0 zs.length cap0).ownBlock = some k) := ⟨HGR.out.os, HGR.out.tape, HGR.out.output, HGR.out.size, fun k hk hn => HGR.out.block k hk (fun e => hn (.inr e.symm))⟩
        exact k1.trans (Kept.of_set _ _ _ _) (fun i _ h => .inl h)
  case rest =>
    obtain ⟨v1, h1, h2, h3, hkept⟩ := hcut
    have hrl := room_length zs j
    obtain ⟨ys, hys⟩ : ∃ ys, room zs j = ys := ⟨_, rfl⟩
    rw [hys] at h2 hrl
    obtain ⟨g, cap, cur, rfl, hg⟩ : ∃ g cap cur, v1 = .slice (some ⟨g, 0, none⟩) ys.length cap ∧ wc.heap[g]? = some (.cells cur 2 (0, 0)) := by
      rcases h2.2 with ⟨_, h0⟩ | ⟨g, cap, cur, h1, _, h2, _⟩
      · omega
      · exact ⟨g, cap, cur, h1, h2⟩
    have hgT : g ≠ T := by
      intro e
      subst e
      rw [h1] at hg
      simp at hg
    have hjl : j < ys.length := by omega
    obtain ⟨x, hx⟩ : ∃ x, ys.getD j 0 = x := ⟨_, rfl⟩
    have e1 := cell_heap (o := 2) h1 rfl
    have e3 := cell_heap (o := 3) h1 rfl
    have f3 := frozen_heap (o := 3) h1
    have e4 : wc.cell? ⟨g, j, none⟩ = some (.int .i64 x) := by rw [h2.cellAt j (by omega), vals_at hjl, hx]
    have f4 : wc.frozen? ⟨g, j, none⟩ = false := h2.frozenAt j
    have j0 : (0 : Int) ≤ (j : Int) := by omega
    have j1 : (j : Int) < (ys.length : Int) := by omega
    have hst := h2.stored j (.int .i64 (wrap64 (x + 1)))
    have HST := Hid.mk hst
    have H1 := Hid.mk h1
    have H3 := Hid.mk h3
    have HY := Hid.mk hys
    have HX := Hid.mk hx
    clear hst h1 h2 h3 hys hx hg hrl
    go_wp2_with fail
    go_end0
    have hbump : bump zs (buck d) = ys.set j (wrap64 (x + 1)) := by unfold bump; rw [HJ.out, HY.out, HX.out]
    refine ⟨rfl, .slice (some ⟨g, 0, none⟩) ys.length cap, ?_, ?_, H3.out, ?_⟩
    · exact heap_setCell_same ((Below.heap_setCell _ _ _ _ (Ne.symm hgT)).trans H1.out) _
    · rw [hbump, vals_set, List.length_set]
      exact HST.out.1.kept (row := some T) ⟨rfl, rfl, rfl, by simp, fun k _ hk => Below.heap_setCell _ _ _ _ (fun e => hk (by rw [e]))⟩ (.inr (by simp [Value.ownBlock]; exact hgT))
    · refine (hkept.trans (Kept.of_set wc g j _) (fun i hi h => ?_)).trans (Kept.of_set _ T 3 _) (fun i _ h => .inl h)
      subst h
      rcases H3.out with h | ⟨k, h, hk⟩
      · exact .inr h.symm
      · simp [Value.ownBlock] at h; omega
end Go.Proofs.Ybulkdzho
