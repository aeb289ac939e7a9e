/-
  THE WALKS of (*batch).flush and (*batch).add.
-/
import Derived.Test.YbulkdzhoAdd
namespace Go.Proofs.Ybulkdzho
open Go Go.RowKit Go.MuLone

/-- The first i durations counted. -/
def bumps (zs : List Int) (D : Nat → Nat) : Nat → List Int
  | 0 => zs
  | i + 1 => bump (bumps zs D i) (buck (D i))
theorem bumps_length (zs : List Int) (D : Nat → Nat) (hD : ∀ i, i < 64 → D i < 9223372036854775808) (hz : zs.length ≤ 1048576) : ∀ i, i ≤ 64 → (bumps zs D i).length ≤ 1048576
  | 0, _ => hz
  | i + 1, h => by
    have h1 := bumps_length zs D hD hz i (by omega)
    have h2 := buck_lt (D i) (hD i (by omega))
    rw [bumps, bump_length]; omega
theorem wrap_step (hn : Int) (k : Nat) : wrap64 (wrap64 (hn + k) + 1) = wrap64 (hn + ((k + 1 : Nat) : Int)) := by unfold wrap64; omega

theorem owns_set {w : World} {base n : Nat} {v : Value} {xs : List Value} (h : w.ownsRow base 2 1 v n xs) (b o : Nat) (x : Value) (hb : v.ownBlock ≠ some b) : (w.setCell ⟨b, o, none⟩ x).ownsRow base 2 1 v n xs :=
  h.kept (row := some b) ⟨rfl, rfl, rfl, by simp, fun k _ hk => Below.heap_setCell _ _ _ _ (fun e => hk (congrArg some e))⟩ (.inr hb)
/-- The batch's block. -/
structure Bat (bat : Array Value) (T : Nat) (D : Nat → Nat) (n : Int) : Prop where
  size : bat.size = 66
  tm : bat[0]? = some (.pointer (some ⟨T, 0, none⟩))
  ds : ∀ i, i < 64 → bat[1 + i]? = some (.int .i64 (D i))
  cnt : bat[65]? = some (.int .i64 n)

set_option maxRecDepth 100000 in
set_option maxHeartbeats 2000000 in
theorem flush_any (B T base : Nat) (u hn : Int) (v : Value) (zs : List Int) (D : Nat → Nat) (hD : ∀ i, i < 64 → D i < 9223372036854775808) (bat : Array Value) (hbat : Bat bat T D 64) (w : World)
    (hB : w.heap[B]? = some (.cells bat 40 (0, 0))) (hT : w.heap[T]? = some (.cells (tim 0 u v hn) 37 (0, 0))) (hBT : B ≠ T) (hhn : wrap64 hn = hn)
    (hown : w.ownsRow base 2 1 v zs.length (vals zs)) (hvT : v.ownBlock ≠ some T) (hvB : v.ownBlock ≠ some B) (hz : zs.length ≤ 1048576) (hbase : base ≤ w.heap.size) :
    Calls Yba.prog 10 #[.pointer (some ⟨B, 0, none⟩)] w fun e w' => e = .returned (.tuple #[]) ∧ ∃ v', w'.heap[T]? = some (.cells (tim 0 u v' (wrap64 (hn + (64 : Nat)))) 37 (0, 0)) ∧
      w'.heap[B]? = some (.cells (bat.setIfInBounds 65 (.int .i64 0)) 40 (0, 0)) ∧
      w'.ownsRow base 2 1 v' (bumps zs D 64).length (vals (bumps zs D 64)) ∧ (v'.ownBlock = v.ownBlock ∨ ∃ k, v'.ownBlock = some k ∧ w.heap.size ≤ k) ∧ Kept w w' (fun k => k = B ∨ k = T ∨ v.ownBlock = some k) := by
  have hTl := lt_of_heap hT
  have hBl := lt_of_heap hB
  have c0 := cell_heap hB hbat.tm
  have t0 := cell_heap (o := 0) hT rfl
  have tf := frozen_heap (o := 0) hT
  have t0' : w.cell? ⟨T, 0, none⟩ = some (.int .i32 0) := t0
  go_enter_defers Yba.func10, Yba.ntmps10
  go_wp2_with fail
  refine (lock_free Yba.muLib ⟨T, 0, none⟩ _ t0' tf).mono ?_
  rintro e w1 ⟨rfl, hw1⟩
  have H1 : Hid (w1.heap[T]? = some (.cells (tim 1 u v hn) 37 (0, 0))) := Hid.mk (by rw [hw1]; exact heap_setCell_same hT _)
  have H2 : Hid (w1.heap[B]? = some (.cells bat 40 (0, 0))) := Hid.mk (by rw [hw1]; exact (Below.heap_setCell _ _ _ _ hBT).trans hB)
  have HO : Hid (w1.ownsRow base 2 1 v zs.length (vals zs)) := Hid.mk (by rw [hw1]; exact hown.kept (row := some T) ⟨rfl, rfl, rfl, by simp, fun k _ hk => Below.heap_setCell _ _ _ _ (fun e => hk (by rw [e]))⟩ (.inr hvT))
  have hkept : Kept w w1 (fun k => k = B ∨ k = T ∨ v.ownBlock = some k) := by rw [hw1]; exact (Kept.refl w _).trans (Kept.of_set _ T 0 _) (fun i _ h => .inr (.inl h))
  have HVT := Hid.mk hvT
  have HVB := Hid.mk hvB
  clear hw1 t0 t0' tf hT hB hown c0 hvT hvB
  have c0 := cell_heap H2.out hbat.tm
  have c65 := cell_heap H2.out hbat.cnt
  go_wp2_with fail
  go_quiet (fail)
  go_wp2_with fail
  go_loopw [26] (fun i wr => ∃ (k : Nat) (v' : Value), k ≤ 64 ∧ i = .int .i64 (k : Int) ∧ wr.heap[T]? = some (.cells (tim 1 u v' (wrap64 (hn + k))) 37 (0, 0)) ∧ wr.heap[B]? = some (.cells bat 40 (0, 0)) ∧
      wr.ownsRow base 2 1 v' (bumps zs D k).length (vals (bumps zs D k)) ∧ (v'.ownBlock = v.ownBlock ∨ ∃ k, v'.ownBlock = some k ∧ w.heap.size ≤ k) ∧ Kept w wr (fun k => k = B ∨ k = T ∨ v.ownBlock = some k)) (fun i _ => 64 - (intOf i).toNat)
  case atStart =>
    refine ⟨0, v, by omega, rfl, ?_, H2.out, HO.out, .inl rfl, ⟨hkept.os, hkept.tape, hkept.output, hkept.size, hkept.block⟩⟩
    rw [show hn + ((0 : Nat) : Int) = hn by simp, hhn]
    exact H1.out
  case round =>
    clear H1 H2 HO hkept c0 c65
    obtain ⟨k, v', hk, rfl, h1, h2, hown, hblk, hkept⟩ := hrel
    have hvT : v'.ownBlock ≠ some T := by
      rcases hblk with h | ⟨i, h, hi⟩
      · rw [h]; exact HVT.out
      · rw [h]; intro e; simp at e; omega
    have hvB : v'.ownBlock ≠ some B := by
      rcases hblk with h | ⟨i, h, hi⟩
      · rw [h]; exact HVB.out
      · rw [h]; intro e; simp at e; omega
    have H1 := Hid.mk h1
    have H2 := Hid.mk h2
    have HO := Hid.mk hown
    have HK := Hid.mk hblk
    have HV1 := Hid.mk hvT
    have HV2 := Hid.mk hvB
    clear h1 h2 hown hblk hvT hvB
    have c0 := cell_heap H2.out hbat.tm
    by_cases hlt : k < 64
    · have ck := cell_heap H2.out (hbat.ds k hlt)
      have k0 : (0 : Int) ≤ (k : Int) := by omega
      have k1 : (k : Int) < 64 := by omega
      go_wp2_with fail
      refine (hadd_any T base 1 u (wrap64 (hn + k)) v' (bumps zs D k) (D k) (hD k hlt) wr H1.out HO.out HV1.out (Nat.le_trans (bumps_length zs D hD hz k hk) (by omega)) (Nat.le_trans hbase hkept.size)).mono ?_
      rintro e w2 ⟨rfl, v2, h1, h2, h3, h4⟩
      go_wp2_with fail
      go_roundw
      case rel =>
        refine ⟨k + 1, v2, by omega, by go_num, ?_, ?_, ?_, ?_, ?_⟩
        · rw [← wrap_step]; exact h1
        · exact (h4.block B (lt_of_heap H2.out) (fun h => h.elim hBT HV2.out)).trans H2.out
        · exact h2
        · rcases h3 with h | ⟨i, h, hi⟩
          · rw [h]; exact HK.out
          · exact .inr ⟨i, h, Nat.le_trans hkept.size hi⟩
        · refine hkept.trans h4 (fun i hi h => ?_)
          rcases h with h | h
          · exact .inr (.inl h)
          · rcases HK.out with h' | ⟨i', h', hi'⟩
            · rw [h'] at h; exact .inr (.inr h)
            · rw [h'] at h; simp at h; omega
      case measure => simp [intOf]; omega
    · obtain rfl : k = 64 := by omega
      have c65 := cell_heap H2.out hbat.cnt
      have f65 := frozen_heap (o := 65) H2.out
      go_wp2_with fail
      have hT1 : (wr.setCell ⟨B, 65, none⟩ (.int .i64 0)).heap[T]? = some (.cells (tim 1 u v' (wrap64 (hn + (64 : Nat)))) 37 (0, 0)) := (Below.heap_setCell _ _ _ _ (Ne.symm hBT)).trans H1.out
      refine leaves_cons (f := 7) (args := #[.pointer (some ⟨T, 0, none⟩)]) (by simp) (by simp [go_sem]) ?_
      refine (unlock_deferred Yba.muLib ⟨T, 0, none⟩ .returning _ ?_ ?_).mono ?_
      · exact cell_heap (o := 0) hT1 rfl
      · exact frozen_heap (o := 0) hT1
      rintro e u' w'' ⟨rfl, rfl, hw⟩
      subst hw
      refine ⟨_, results_none rfl _ _ _, rfl, v', heap_setCell_same hT1 _, ?_, ?_, HK.out, ?_⟩
      · exact (Below.heap_setCell _ _ _ _ hBT).trans (heap_setCell_same H2.out _)
      · exact owns_set (owns_set HO.out B 65 _ HV2.out) T 0 _ HV1.out
      · exact (hkept.trans (Kept.of_set _ B 65 _) (fun i _ h => .inl h)).trans (Kept.of_set _ T 0 _) (fun i _ h => .inr (.inl h))

set_option maxRecDepth 100000 in
set_option maxHeartbeats 2000000 in
/-- Below a full batch: d is stored, the count goes up. -/
theorem badd_some (B T k : Nat) (D : Nat → Nat) (bat : Array Value) (d : Nat) (hbat : Bat bat T D k) (hk : k < 63) (w : World) (hB : w.heap[B]? = some (.cells bat 40 (0, 0))) :
    Calls Yba.prog 5 #[.pointer (some ⟨B, 0, none⟩), .int .i64 d] w fun e w' => e = .returned (.tuple #[]) ∧
      w'.heap[B]? = some (.cells ((bat.setIfInBounds (1 + k) (.int .i64 d)).setIfInBounds 65 (.int .i64 ((k + 1 : Nat) : Int))) 40 (0, 0)) ∧ Kept w w' (fun i => i = B) := by
  have c65 := cell_heap hB hbat.cnt
  have ck := cell_heap hB (hbat.ds k (by omega))
  have f65 := frozen_heap (o := 65) hB
  have fk := frozen_heap (o := 1 + k) hB
  have k0 : (0 : Int) ≤ (k : Int) := by omega
  have k1 : (k : Int) < 64 := by omega
  have hbs := hbat.size
  have HB := Hid.mk hB
  clear hB
  go_enter Yba.func5, Yba.ntmps5
  go_upto_region 1 with fail
  refine wp_region_pick [0, 1, 2, 3, 4, 5, 6, 7, 8] [9] [0, 1, 2, 3, 4, 5, 6, 7, 8] (fun w' => w'.cell? ⟨B, 65, none⟩ = some (.int .i64 k)) (by kernel_rfl) (by kernel_rfl) (fun _ _ d _ _ h => by cases d <;> exact h) c65 ?_
  iterate 9 (refine wpHead_cons (v := ?_) rfl (by rfl) ?_ ?_; rotate_left 1; (focus (intro w0 hS0; go_simp; first | done | with_reducible rfl)); simp only [Act.put, List.setIfInBounds_toArray, List.set_cons_zero, List.set_cons_succ])
  refine wpHead_nil ?_
  refine wpTail_list _ _ _ rfl ?_
  simp only [List.filterMap_cons, List.filterMap_nil, List.getElem?_cons_succ, List.getElem?_cons_zero]
  have hne : ¬ (1 + k = 65) := by omega
  have hne' : ¬ (65 = 1 + k) := by omega
  have hk64 : (((k : Int) + 1) == 64) = false := by simp; omega
  go_wp2_with fail
  go_end0
  exact ⟨rfl, heap_setCell_same (heap_setCell_same HB.out _) _, Kept.mk rfl rfl rfl (by simp) (fun i _ hi => (Below.heap_setCell _ _ _ _ hi).trans (Below.heap_setCell _ _ _ _ hi))⟩

/-- The batch with d at place k. -/
def put (D : Nat → Nat) (k d : Nat) : Nat → Nat := fun i => if i = k then d else D i
theorem Bat.put {bat : Array Value} {T : Nat} {D : Nat → Nat} {n : Int} (h : Bat bat T D n) {k d : Nat} (hk : k < 64) (m : Int) :
    Bat ((bat.setIfInBounds (1 + k) (.int .i64 d)).setIfInBounds 65 (.int .i64 m)) T (put D k d) m := by
  have hs := h.size
  refine ⟨by simpa using hs, ?_, fun i hi => ?_, ?_⟩
  · rw [Array.getElem?_setIfInBounds_ne (by omega), Array.getElem?_setIfInBounds_ne (by omega)]; exact h.tm
  · rw [Array.getElem?_setIfInBounds_ne (by omega), Array.getElem?_setIfInBounds]
    unfold Ybulkdzho.put
    by_cases hik : i = k
    · subst hik
      rw [if_pos rfl, if_pos (by omega), if_pos rfl]
    · rw [if_neg (by omega), if_neg hik]; exact h.ds i hi
  · rw [Array.getElem?_setIfInBounds_self_of_lt (by simp; omega)]

set_option maxRecDepth 100000 in
set_option maxHeartbeats 2000000 in
/-- The last place of a batch: d is stored, and the batch goes into its timings. -/
theorem badd_full (B T k base : Nat) (hk : k = 63) (u hn : Int) (v : Value) (zs : List Int) (D : Nat → Nat) (hD : ∀ i, i < 64 → D i < 9223372036854775808) (bat : Array Value) (d : Nat) (hd : d < 9223372036854775808) (hbat : Bat bat T D k) (w : World)
    (hB : w.heap[B]? = some (.cells bat 40 (0, 0))) (hT : w.heap[T]? = some (.cells (tim 0 u v hn) 37 (0, 0))) (hBT : B ≠ T) (hhn : wrap64 hn = hn)
    (hown : w.ownsRow base 2 1 v zs.length (vals zs)) (hvT : v.ownBlock ≠ some T) (hvB : v.ownBlock ≠ some B) (hz : zs.length ≤ 1048576) (hbase : base ≤ w.heap.size) :
    Calls Yba.prog 5 #[.pointer (some ⟨B, 0, none⟩), .int .i64 d] w fun e w' => e = .returned (.tuple #[]) ∧ ∃ v', w'.heap[T]? = some (.cells (tim 0 u v' (wrap64 (hn + (64 : Nat)))) 37 (0, 0)) ∧
      w'.heap[B]? = some (.cells (((bat.setIfInBounds (1 + k) (.int .i64 d)).setIfInBounds 65 (.int .i64 64)).setIfInBounds 65 (.int .i64 0)) 40 (0, 0)) ∧
      w'.ownsRow base 2 1 v' (bumps zs (put D k d) 64).length (vals (bumps zs (put D k d) 64)) ∧ (v'.ownBlock = v.ownBlock ∨ ∃ k, v'.ownBlock = some k ∧ w.heap.size ≤ k) ∧ Kept w w' (fun k => k = B ∨ k = T ∨ v.ownBlock = some k) := by
  subst hk
  have c65 : w.cell? ⟨B, 65, none⟩ = some (.int .i64 63) := cell_heap hB hbat.cnt
  have ck : w.cell? ⟨B, 64, none⟩ = some (.int .i64 (D 63)) := cell_heap hB (hbat.ds 63 (by omega))
  have f65 := frozen_heap (o := 65) hB
  have fk := frozen_heap (o := 64) hB
  have hBl := lt_of_heap hB
  have hTl := lt_of_heap hT
  have HB := Hid.mk hB
  have HT := Hid.mk hT
  have HO := Hid.mk hown
  have HV1 := Hid.mk hvT
  have HV2 := Hid.mk hvB
  clear hB hT hown hvT hvB
  go_enter Yba.func5, Yba.ntmps5
  go_upto_region 1 with fail
  refine wp_region_pick [0, 1, 2, 3, 4, 5, 6, 7, 8] [9] [0, 1, 2, 3, 4, 5, 6, 7, 8] (fun w' => w'.cell? ⟨B, 65, none⟩ = some (.int .i64 63)) (by kernel_rfl) (by kernel_rfl) (fun _ _ d _ _ h => by cases d <;> exact h) c65 ?_
  iterate 9 (refine wpHead_cons (v := ?_) rfl (by rfl) ?_ ?_; rotate_left 1; (focus (intro w0 hS0; go_simp; first | done | with_reducible rfl)); simp only [Act.put, List.setIfInBounds_toArray, List.set_cons_zero, List.set_cons_succ])
  refine wpHead_nil ?_
  refine wpTail_list _ _ _ rfl ?_
  simp only [List.filterMap_cons, List.filterMap_nil, List.getElem?_cons_succ, List.getElem?_cons_zero]
  go_wp2_with fail
  have hbat' := hbat.put (k := 63) (d := d) (by omega) 64
  refine (flush_any B T base u hn v zs (put D 63 d) (fun i hi => by unfold put; split <;> first | exact hd | exact hD i hi) _ hbat' (((w.setCell ⟨B, 64, none⟩ (.int .i64 d)).setCell ⟨B, 65, none⟩ (.int .i64 64)).drew) (by exact heap_setCell_same (heap_setCell_same HB.out _) _)
    (by exact (Below.heap_setCell _ _ _ _ (Ne.symm hBT)).trans ((Below.heap_setCell _ _ _ _ (Ne.symm hBT)).trans HT.out)) hBT hhn (by exact owns_set (owns_set HO.out B 64 _ HV2.out) B 65 _ HV2.out) HV1.out HV2.out hz (by simpa using hbase)).mono ?_
  rintro e w2 ⟨rfl, v', h1, h2, h3, h4, h5⟩
  go_wp2_with fail
  go_end0
  refine ⟨rfl, v', h1, h2, h3, ?_, ?_⟩
  · rcases h4 with h | ⟨i, h, hi⟩
    · exact .inl h
    · exact .inr ⟨i, h, by simpa using hi⟩
  · refine Kept.trans (b := ((w.setCell ⟨B, 64, none⟩ (.int .i64 d)).setCell ⟨B, 65, none⟩ (.int .i64 64)).drew) ?_ h5 (fun _ _ h => h)
    exact ⟨rfl, rfl, rfl, by simp, fun i _ hi => (Below.heap_setCell _ _ _ _ (fun e => hi (.inl e))).trans (Below.heap_setCell _ _ _ _ (fun e => hi (.inl e)))⟩
end Go.Proofs.Ybulkdzho
