/-
  THE WALK of learn where the peer is not known yet.
-/
import Derived.Test.YbulkdzhaLearn
import Derived.Great.BuildSlice
namespace Go.Proofs.Ybulkdzha
open Go Go.RowKit

theorem insertId_any (g n i h : Nat) (arr c : Array Value) (w : World) (hn : n ≤ 65536) (hin : i ≤ n) (hs : arr.size = n * 20) (hc : c.size = 20) (ha1 : ∀ v ∈ arr.toList, v.oneCell' = true) (hc1 : ∀ v ∈ c.toList, v.oneCell' = true)
    (hg : w.heap[g]? = some (.cells arr 30 (0, 0))) (hh : w.heap[h]? = some (.cells c 30 (0, 0))) :
    Calls Yba.prog 10 #[.slice (some ⟨g, 0, none⟩) n n, .int .i64 i, .slice (some ⟨h, 0, none⟩) 1 1] w fun e w' => Put 20 30 n i arr c w e w' ∧ Below w.heap.size w w' := by
  rcases Nat.eq_or_lt_of_le hin with rfl | h1
  · exact insertId_end g i h arr c w hn hs hc hg hh
  · exact insertId_mid g n i h arr c w hn h1 hs hc ha1 hc1 hg hh
theorem insertEntry_any (g n i h : Nat) (arr c : Array Value) (w : World) (hn : n ≤ 65536) (hin : i ≤ n) (hs : arr.size = n * 6) (hc : c.size = 6) (ha1 : ∀ v ∈ arr.toList, v.oneCell' = true) (hc1 : ∀ v ∈ c.toList, v.oneCell' = true)
    (hg : w.heap[g]? = some (.cells arr 38 (0, 0))) (hh : w.heap[h]? = some (.cells c 38 (0, 0))) :
    Calls Yba.prog 11 #[.slice (some ⟨g, 0, none⟩) n n, .int .i64 i, .slice (some ⟨h, 0, none⟩) 1 1] w fun e w' => Put 6 38 n i arr c w e w' ∧ Below w.heap.size w w' := by
  rcases Nat.eq_or_lt_of_le hin with rfl | h1
  · exact insertEntry_end g i h arr c w hn hs hc hg hh
  · exact insertEntry_mid g n i h arr c w hn h1 hs hc ha1 hc1 hg hh

/-! ### Slice literals of one element -/
def bs27 (n : Nat) (ps : Array (Nat × Value)) : Sem Value := Instr.buildSlice 27 n ps
theorem buildSlice27 (n : Nat) (ps : Array (Nat × Value)) : Instr.buildSlice 27 n ps = bs27 n ps := rfl
theorem rep20 (v : Value) : Array.replicate 20 v = #[v, v, v, v, v, v, v, v, v, v, v, v, v, v, v, v, v, v, v, v] := rfl
theorem fill20 (d : Array Value) (hd : d.size = 20) (f : Nat → Option (Nat × Nat)) (hf : f 0 = some (0, 20)) : Instr.fill f (Array.replicate 20 (.int .u8 0)) [(0, .agg d)] = some d := by
  obtain ⟨l⟩ := d
  match l, hd with
  | [a0, a1, a2, a3, a4, a5, a6, a7, a8, a9, b0, b1, b2, b3, b4, b5, b6, b7, b8, b9], _ => simp [Instr.fill, hf, Value.cells, rep20]
theorem run_bs27 (w : World) (d : Array Value) (hd : d.size = 20) : (bs27 1 #[(0, .agg d)]).run Yba.prog w = .ok (.slice (some ⟨w.heap.size, 0, none⟩) 1 1) (w.alloc (.cells d 30)) := by
  obtain ⟨i0, hi, hz0, hz1, hz2⟩ := info_parts info30'
  refine run_buildSlice w 27 30 1 _ d i0 _ Yba.underlying27 hi hz0 (by rw [hz1]; omega) (by rw [hz1]; omega) ?_
  rw [hz1]
  have e : (Array.range (1 * 20)).map ((Value.agg (Array.replicate 20 (.int .u8 0))).cells[· % (Value.agg (Array.replicate 20 (.int .u8 0))).cells.size]!) = Array.replicate 20 (.int .u8 0) := by kernel_rfl
  rw [e]
  exact fill20 d hd _ rfl
def bs28 (n : Nat) (ps : Array (Nat × Value)) : Sem Value := Instr.buildSlice 28 n ps
theorem buildSlice28 (n : Nat) (ps : Array (Nat × Value)) : Instr.buildSlice 28 n ps = bs28 n ps := rfl
theorem run_bs28 (w : World) (d : Array Value) (hd : d.size = 6) : (bs28 1 #[(0, .agg d)]).run Yba.prog w = .ok (.slice (some ⟨w.heap.size, 0, none⟩) 1 1) (w.alloc (.cells d 38)) := by
  obtain ⟨i0, hi, hz0, hz1, hz2⟩ := info_parts info38'
  refine run_buildSlice w 28 38 1 _ d i0 _ Yba.underlying28 hi hz0 (by rw [hz1]; omega) (by rw [hz1]; omega) ?_
  rw [hz1]
  have e : (Array.range (1 * 6)).map ((Value.agg #[.int .i64 0, .int .i64 0, .int .u8 0, .int .u16 0, .int .u16 0, .bool false]).cells[· % (Value.agg #[.int .i64 0, .int .i64 0, .int .u8 0, .int .u16 0, .int .u16 0, .bool false]).cells.size]!) = #[.int .i64 0, .int .i64 0, .int .u8 0, .int .u16 0, .int .u16 0, .bool false] := by kernel_rfl
  rw [e]
  obtain ⟨l⟩ := d
  match l, hd with
  | [a0, a1, a2, a3, a4, a5], _ => simp [Instr.fill, Value.cells]

attribute [local go_sem ↓] loadAt25 storeAt25 loadAt38 storeAt38 equalIn38 buildSlice27 buildSlice28
attribute [local go_sem] run_load25 run_store25 run_eq25 guard25 has20_drew has20_drewN row20_drew row20_drewN soft_drew soft_drewN run_load38 run_store38 run_eq38 guard38 has6_drew has6_drewN row6_drew row6_drewN run_bs27 run_bs28

theorem idv_one (u : Nat) (hu : u < 4294967296) : ∀ v ∈ (idv u).toList, v.oneCell' = true := fun v hv => by
  obtain ⟨b, _, _, rfl⟩ := (idv_isId u hu).2 v hv; rfl
/-- The entry of a peer that was heard of. -/
def fresh (ad seen : Int) : Array Value := #[.int .i64 ad, .int .i64 seen, .int .u8 0, .int .u16 0, .int .u16 0, .bool false]
theorem fresh_one (ad seen : Int) : ∀ v ∈ (fresh ad seen).toList, v.oneCell' = true := by
  intro v hv
  simp only [fresh, List.mem_cons, List.not_mem_nil, or_false] at hv
  rcases hv with rfl | rfl | rfl | rfl | rfl | rfl <;> rfl

/-- What a row becomes with one element put in at place i. -/
structure Ins (sz n i : Nat) (arr c arr2 : Array Value) : Prop where
  size : (n + 1) * sz ≤ arr2.size
  row : ∀ j, j < (n + 1) * sz → arr2[j]? = if j < i * sz then arr[j]? else if j < i * sz + sz then c[j - i * sz]? else arr[j - sz]?

/-- What learn leaves of a peer that was not known: two new rows. -/
def Learnt (p n k u : Nat) (ad seen : Int) (N A C : Array Value) (w w' : World) : Prop :=
  ∃ (g2 c2 h2 d2 : Nat) (A2 C2 : Array Value), w'.heap[p]? = some (.cells (((N.setIfInBounds 71 (.bool false)).setIfInBounds 34 (.slice (some ⟨g2, 0, none⟩) (n + 1) c2)).setIfInBounds 35 (.slice (some ⟨h2, 0, none⟩) (n + 1) d2)) 71 (0, 0)) ∧
    w'.heap[g2]? = some (.cells A2 30 (0, 0)) ∧ w'.heap[h2]? = some (.cells C2 38 (0, 0)) ∧ w.heap.size ≤ g2 ∧ w.heap.size ≤ h2 ∧ Ins 20 n k A (idv u) A2 ∧ Ins 6 n k C (fresh ad seen) C2 ∧ w.heap.size ≤ w'.heap.size ∧
    (∀ b, b < w.heap.size → b ≠ p → w'.heap[b]? = w.heap[b]?) ∧ ∀ B, B ≤ p → B ≤ w.heap.size → Below B w w'

set_option maxRecDepth 100000 in
set_option maxHeartbeats 1000000 in
theorem learn_new (p u s g h n k : Nat) (ad seen : Int) (c N A C : Array Value) (K : Nat → Nat) (al : Bool) (w : World) (hu : u < 4294967296) (hs : s < 4294967296) (hus : u ≠ s) (hn : n ≤ 65536) (hc : IsPeer c u ad)
    (hN : IsNode N s (.slice (some ⟨g, 0, none⟩) n n) (.slice (some ⟨h, 0, none⟩) n n) al) (hp : w.heap[p]? = some (.cells N 71 (0, 0)))
    (hA : Keys A n K) (hAs : A.size = n * 20) (hA1 : ∀ v ∈ A.toList, v.oneCell' = true) (hg : w.heap[g]? = some (.cells A 30 (0, 0))) (hC : C.size = n * 6) (hC1 : ∀ v ∈ C.toList, v.oneCell' = true) (hh : w.heap[h]? = some (.cells C 38 (0, 0))) (hgp : g ≠ p) (hhp : h ≠ p)
    (hk : k ≤ n) (hlo : ∀ i, i < k → K i < u) (hhi : ∀ i, k ≤ i → i < n → u < K i) :
    Calls Yba.prog 6 #[.pointer (some ⟨p, 0, none⟩), .agg c, .int .i64 seen] w fun e w' => e = .returned (.int .i64 k) ∧ Learnt p n k u ad seen N A C w w' := by
  have hcs := hc.size
  have hsm : sameB (idv u) (idv s) = false := by rw [idv_same u s hu hs]; simp [hus]
  have hid := idv_isId u hu
  have hid2 := idv_isId s hs
  have HP := Hid.mk hp
  have HG := Hid.mk hg
  have HH := Hid.mk hh
  clear hp hg hh
  go_enter Yba.func6, Yba.ntmps6
  go_wp2_with fail
  obtain ⟨w1, hw1⟩ : ∃ x, x = w.alloc (.cells c 41) := ⟨_, rfl⟩
  rw [← hw1]
  have hB : Hid (w1.heap[w.heap.size]? = some (.cells c 41 (0, 0))) := by rw [hw1]; exact heap_alloc_new _ _
  have hP1 : Hid (w1.heap[p]? = some (.cells N 71 (0, 0))) := by rw [hw1]; exact heap_old HP.out _
  have hG1 : Hid (w1.heap[g]? = some (.cells A 30 (0, 0))) := by rw [hw1]; exact heap_old HG.out _
  have hH1 : Hid (w1.heap[h]? = some (.cells C 38 (0, 0))) := by rw [hw1]; exact heap_old HH.out _
  have hbel : Below w.heap.size w w1 := by rw [hw1]; exact (Below.refl _ _).alloc (Nat.le_refl _) _
  have q1 := hc.has hB.out
  have q2 := hc.row hB.out
  have q3 := hN.has hP1.out
  have q4 := hN.row hP1.out
  have lp := lt_of_heap HP.out
  have lg := lt_of_heap HG.out
  have lh := lt_of_heap HH.out
  clear hw1 HP HG HH
  go_quiet (fail)
  have hB2 : Hid ((w1.drewN nq).heap[w.heap.size]? = some (.cells c 41 (0, 0))) := hB.out
  have hP2 : Hid ((w1.drewN nq).heap[p]? = some (.cells N 71 (0, 0))) := hP1.out
  have hG2 : Hid ((w1.drewN nq).heap[g]? = some (.cells A 30 (0, 0))) := hG1.out
  have hH2 : Hid ((w1.drewN nq).heap[h]? = some (.cells C 38 (0, 0))) := hH1.out
  have hbel2 : Below w.heap.size w (w1.drewN nq) := below_drewN hbel _
  obtain ⟨w2, hw2⟩ : ∃ x, x = w1.drewN nq := ⟨_, rfl⟩
  rw [← hw2] at hB2 hP2 hG2 hH2 hbel2 ⊢
  clear hw2 hB hP1 hG1 hH1 hbel q1 q2 q3 q4
  go_wp2_with fail
  refine (heard_any p al _ (cell_heap hP2.out hN.alone) (frozen_heap hP2.out)).mono ?_
  rintro e w3 ⟨⟨v, rfl⟩, hw3⟩
  have hB3 : Hid (w3.heap[w.heap.size]? = some (.cells c 41 (0, 0))) := by rw [hw3]; exact (Below.heap_setCell _ _ _ _ (by simp; omega)).trans hB2.out
  have hP3 : Hid (w3.heap[p]? = some (.cells (N.setIfInBounds 71 (.bool false)) 71 (0, 0))) := by rw [hw3]; exact heap_setCell_same hP2.out _
  have hG3 : Hid (w3.heap[g]? = some (.cells A 30 (0, 0))) := by rw [hw3]; exact (Below.heap_setCell _ _ _ _ hgp).trans hG2.out
  have hH3 : Hid (w3.heap[h]? = some (.cells C 38 (0, 0))) := by rw [hw3]; exact (Below.heap_setCell _ _ _ _ hhp).trans hH2.out
  have hk3 : Hid (w.heap.size ≤ w3.heap.size ∧ (∀ b, b < w.heap.size → b ≠ p → w3.heap[b]? = w.heap[b]?) ∧ ∀ B, B ≤ p → B ≤ w.heap.size → Below B w w3) := by
    rw [hw3]
    refine ⟨by simp [World.setCell]; exact hbel2.size, fun b hb hbp => (Below.heap_setCell _ _ _ _ hbp).trans (hbel2.block b hb), fun B hB1 hB2 => (hbel2.mono hB2).setCell hB1 _⟩
  have q1 := hc.has hB3.out
  have q2 := hc.row hB3.out
  have q3 : w3.cell? ⟨p, 34, none⟩ = some (.slice (some ⟨g, 0, none⟩) n n) := cell_heap hP3.out (by rw [Array.getElem?_setIfInBounds_ne (by omega)]; exact hN.ids)
  clear hw3 hB2 hP2 hG2 hH2 hbel2
  go_wp2_with fail
  refine wp_region_pick2 [0, 1, 2, 3, 4, 5] [6, 7] [8, 9, 10, 11] [0, 1, 2, 3, 4, 5] (fun w' => has20 w' w.heap.size 0 ∧ row20 w' w.heap.size 0 = idv u ∧ w'.cell? ⟨p, 34, none⟩ = some (.slice (some ⟨g, 0, none⟩) n n)) (by kernel_rfl) (by kernel_rfl) (fun _ _ d _ _ h => by cases d <;> exact h) ⟨q1, q2, q3⟩ ?_
  iterate 6 (refine wpHead_cons (v := ?_) rfl (by rfl) ?_ ?_; rotate_left 1; (focus (rintro w0 ⟨s1, s2, s3⟩; go_simp; first | done | with_reducible rfl)); simp only [Act.put, List.setIfInBounds_toArray, List.set_cons_zero, List.set_cons_succ])
  refine wpHead_nil ?_
  refine wpTailL_step rfl rfl (by rfl) (fun KK hKK => ?_)
  go_simp
  refine (search_any g n n u A K hu hA hn _ (by exact hG3.out)).mono ?_
  rintro e w4 ⟨⟨k', hk1, hk2, hk4, rfl⟩, hb4'⟩
  obtain rfl : k' = k := by
    rcases Nat.lt_trichotomy k' k with h1 | h1 | h1
    · have h2 := hk4 k' (Nat.le_refl _) (by omega)
      have h3 := hlo k' h1
      omega
    · exact h1
    · have h2 := hk2 k h1
      have h3 := hhi k (Nat.le_refl _) (by omega)
      omega
  have hd : decide (k' < n ∧ K k' = u) = false := by
    rw [decide_eq_false_iff_not]
    rintro ⟨h1, h2⟩
    have h3 := hhi k' (Nat.le_refl _) h1
    omega
  rw [hd]
  refine hKK.out _ _ ?_
  clear hKK KK hk1 hk2 hk4 hd
  have hb4 : Below w3.heap.size w3 w4 := (Below.refl _ _).drew.trans hb4'
  have hB4 : Hid (w4.heap[w.heap.size]? = some (.cells c 41 (0, 0))) := heap_below hb4 hB3.out
  have hP4 : Hid (w4.heap[p]? = some (.cells (N.setIfInBounds 71 (.bool false)) 71 (0, 0))) := heap_below hb4 hP3.out
  have hG4 : Hid (w4.heap[g]? = some (.cells A 30 (0, 0))) := heap_below hb4 hG3.out
  have hH4 : Hid (w4.heap[h]? = some (.cells C 38 (0, 0))) := heap_below hb4 hH3.out
  have hk4 : Hid (w.heap.size ≤ w4.heap.size ∧ (∀ b, b < w.heap.size → b ≠ p → w4.heap[b]? = w.heap[b]?) ∧ ∀ B, B ≤ p → B ≤ w.heap.size → Below B w w4) := 
    have h3 := hk3.out
    ⟨Nat.le_trans h3.1 hb4.size, fun b hb hbp => (hb4.block b (Nat.lt_of_lt_of_le hb h3.1)).trans (h3.2.1 b hb hbp), fun B hB1 hB2 => (h3.2.2 B hB1 hB2).trans (hb4.mono (Nat.le_trans hB2 h3.1))⟩
  clear hb4' hb4 hB3 hP3 hG3 hH3 hk3 q1 q2 q3
  refine wpTailL_step rfl rfl (by rfl) (fun KK hKK => ?_)
  go_simp
  refine hKK.out _ _ ?_
  clear hKK KK
  refine wpTailL_nil ?_
  iterate 4 (refine wpHead_cons (v := ?_) rfl (by rfl) ?_ ?_; rotate_left 1; (focus (rintro w0 -; go_simp; first | done | with_reducible rfl)); simp only [Act.put, List.setIfInBounds_toArray, List.set_cons_zero, List.set_cons_succ])
  refine wpHead_nil ?_
  have q1 := hc.has hB4.out
  have q2 := hc.row hB4.out
  have q3 : w4.cell? ⟨p, 34, none⟩ = some (.slice (some ⟨g, 0, none⟩) n n) := cell_heap hP4.out (by rw [Array.getElem?_setIfInBounds_ne (by omega)]; exact hN.ids)
  have k0 : (0 : Int) ≤ (k' : Int) := by omega
  have hids := hid.1
  go_wp2_with fail
  refine wp_region_pick [0, 1, 2, 3, 4, 5, 6, 7] [8, 9, 10, 11, 12] [0, 1, 2, 3, 4, 5, 6, 7, 8, 9] (fun w' => has20 w' w.heap.size 0 ∧ row20 w' w.heap.size 0 = idv u ∧ w'.cell? ⟨p, 34, none⟩ = some (.slice (some ⟨g, 0, none⟩) n n)) (by kernel_rfl) (by kernel_rfl) (fun _ _ d _ _ h => by cases d <;> exact h) ⟨q1, q2, q3⟩ ?_
  iterate 8 (refine wpHead_cons (v := ?_) rfl (by rfl) ?_ ?_; rotate_left 1; (focus (rintro w0 ⟨s1, s2, s3⟩; go_simp; first | done | with_reducible rfl)); simp only [Act.put, List.setIfInBounds_toArray, List.set_cons_zero, List.set_cons_succ])
  refine wpHead_nil ?_
  have hbx : Below w4.heap.size w4 (w4.alloc (.cells (idv u) 30)).drew := ((Below.refl _ _).alloc (Nat.le_refl _) _).drew
  have hnx : (w4.alloc (.cells (idv u) 30)).drew.heap[w4.heap.size]? = some (.cells (idv u) 30 (0, 0)) := heap_alloc_new _ _
  refine wpTail_keep rfl (by rfl) (fun KK hKK => ?_)
  go_simp
  obtain ⟨w5, hw5⟩ : ∃ x, x = (w4.alloc (.cells (idv u) 30)).drew := ⟨_, rfl⟩
  rw [← hw5] at hbx hnx ⊢
  have hB5 : Hid (w5.heap[w.heap.size]? = some (.cells c 41 (0, 0))) := heap_below hbx hB4.out
  have hP5 : Hid (w5.heap[p]? = some (.cells (N.setIfInBounds 71 (.bool false)) 71 (0, 0))) := heap_below hbx hP4.out
  have hG5 : Hid (w5.heap[g]? = some (.cells A 30 (0, 0))) := heap_below hbx hG4.out
  have hH5 : Hid (w5.heap[h]? = some (.cells C 38 (0, 0))) := heap_below hbx hH4.out
  have e34 : (N.setIfInBounds 71 (.bool false))[34]? = some (.slice (some ⟨g, 0, none⟩) n n) := by rw [Array.getElem?_setIfInBounds_ne (by omega)]; exact hN.ids
  refine hKK.out _ _ ⟨hc.has hB5.out, hc.row hB5.out, cell_heap hP5.out e34⟩ ?_
  clear hKK KK q1 q2 q3 hw5
  refine wpTail_keep rfl (by rfl) (fun KK hKK => ?_)
  go_simp
  refine (insertId_any g n k' w4.heap.size A (idv u) _ hn hk hAs hids hA1 (idv_one u hu) (by exact hG5.out) (by exact hnx)).mono ?_
  rintro e w6 ⟨⟨g2, c2, A2, rfl, hg2, hA2, hA2s, hA2r⟩, hb6⟩
  have hI2 : Hid (Ins 20 n k' A (idv u) A2) := ⟨hA2s, hA2r⟩
  have hB6 : Hid (w6.heap[w.heap.size]? = some (.cells c 41 (0, 0))) := heap_below hb6 hB5.out
  have hP6 : Hid (w6.heap[p]? = some (.cells (N.setIfInBounds 71 (.bool false)) 71 (0, 0))) := heap_below hb6 hP5.out
  have hH6 : Hid (w6.heap[h]? = some (.cells C 38 (0, 0))) := heap_below hb6 hH5.out
  have hG6 : Hid (w6.heap[g2]? = some (.cells A2 30 (0, 0))) := hA2
  refine hKK.out _ _ ⟨hc.has hB6.out, hc.row hB6.out, cell_heap hP6.out e34⟩ ?_
  have hb46 : Below w4.heap.size w4 w6 := hbx.trans (hb6.mono hbx.size)
  have hg2' : w.heap.size ≤ g2 := Nat.le_trans hk4.out.1 (Nat.le_trans hbx.size hg2)
  have hk6 : Hid (w.heap.size ≤ w6.heap.size ∧ (∀ b, b < w.heap.size → b ≠ p → w6.heap[b]? = w.heap[b]?) ∧ ∀ B, B ≤ p → B ≤ w.heap.size → Below B w w6) :=
    have h3 := hk4.out
    ⟨Nat.le_trans h3.1 hb46.size, fun b hb hbp => (hb46.block b (Nat.lt_of_lt_of_le hb h3.1)).trans (h3.2.1 b hb hbp), fun B hB1 hB2 => (h3.2.2 B hB1 hB2).trans (hb46.mono (Nat.le_trans hB2 h3.1))⟩
  have x1 := cell_heap hP6.out e34
  have x2 := frozen_heap (o := 34) hP6.out
  have hgne : g2 ≠ p := by omega
  clear hKK KK hB4 hP4 hG4 hH4 hk4 hbx hnx hB5 hP5 hG5 hH5 hb6 hb46 hg2 hA2 hA2s hA2r
  refine wpTail_list _ _ _ rfl ?_
  simp only [List.filterMap_cons, List.filterMap_nil, List.getElem?_cons_succ, List.getElem?_cons_zero]
  go_wp2_with fail
  have e35 : ((N.setIfInBounds 71 (.bool false)).setIfInBounds 34 (.slice (some ⟨g2, 0, none⟩) (n + 1) c2))[35]? = some (.slice (some ⟨h, 0, none⟩) n n) := by rw [Array.getElem?_setIfInBounds_ne (by omega), Array.getElem?_setIfInBounds_ne (by omega)]; exact hN.cache
  obtain ⟨w7, hw7⟩ : ∃ x, x = w6.setCell ⟨p, 34, none⟩ (.slice (some ⟨g2, 0, none⟩) (n + 1) c2) := ⟨_, rfl⟩
  have hB7 : Hid (w7.heap[w.heap.size]? = some (.cells c 41 (0, 0))) := by rw [hw7]; exact (Below.heap_setCell _ _ _ _ (by simp; omega)).trans hB6.out
  have hP7 : Hid (w7.heap[p]? = some (.cells ((N.setIfInBounds 71 (.bool false)).setIfInBounds 34 (.slice (some ⟨g2, 0, none⟩) (n + 1) c2)) 71 (0, 0))) := by rw [hw7]; exact heap_setCell_same hP6.out _
  have hH7 : Hid (w7.heap[h]? = some (.cells C 38 (0, 0))) := by rw [hw7]; exact (Below.heap_setCell _ _ _ _ hhp).trans hH6.out
  have hG7 : Hid (w7.heap[g2]? = some (.cells A2 30 (0, 0))) := by rw [hw7]; exact (Below.heap_setCell _ _ _ _ hgne).trans hG6.out
  have hk7 : Hid (w.heap.size ≤ w7.heap.size ∧ (∀ b, b < w.heap.size → b ≠ p → w7.heap[b]? = w.heap[b]?) ∧ ∀ B, B ≤ p → B ≤ w.heap.size → Below B w w7) := by
    rw [hw7]
    have h6 := hk6.out
    refine ⟨by simp [World.setCell]; exact h6.1, fun b hb hbp => (Below.heap_setCell _ _ _ _ hbp).trans (h6.2.1 b hb hbp), fun B hB1 hB2 => (h6.2.2 B hB1 hB2).setCell hB1 _⟩
  rw [← hw7]
  clear hw7 hB6 hP6 hH6 hG6 hk6 x1 x2
  refine wp_region_pick [0, 1, 2, 3, 4, 5, 6, 7, 8, 9] [10, 11, 12, 13, 14] [0, 1, 2, 3, 4, 5, 6, 7, 8, 9, 10, 11] (fun w' => w'.cell? ⟨w.heap.size, 20, none⟩ = some (.int .i64 ad) ∧ w'.cell? ⟨p, 35, none⟩ = some (.slice (some ⟨h, 0, none⟩) n n)) (by kernel_rfl) (by kernel_rfl) (fun _ _ d _ _ h => by cases d <;> exact h) ⟨cell_heap hB7.out hc.addr, cell_heap hP7.out e35⟩ ?_
  iterate 9 (refine wpHead_cons (v := ?_) rfl (by rfl) ?_ ?_; rotate_left 1; (focus (rintro w0 ⟨s1, s2⟩; go_simp; first | done | with_reducible rfl)); simp only [Act.put, List.setIfInBounds_toArray, List.set_cons_zero, List.set_cons_succ])
  refine wpHead_cons (v := .agg (fresh ad seen)) rfl (by rfl) (by rintro w0 ⟨s1, s2⟩; go_simp; rfl) ?_
  simp only [Act.put, List.setIfInBounds_toArray, List.set_cons_zero, List.set_cons_succ]
  refine wpHead_nil ?_
  have hfs : (fresh ad seen).size = 6 := rfl
  have hf1 := fresh_one ad seen
  have hbx : Below w7.heap.size w7 (w7.alloc (.cells (fresh ad seen) 38)).drew := ((Below.refl _ _).alloc (Nat.le_refl _) _).drew
  have hnx : (w7.alloc (.cells (fresh ad seen) 38)).drew.heap[w7.heap.size]? = some (.cells (fresh ad seen) 38 (0, 0)) := heap_alloc_new _ _
  refine wpTail_keep rfl (by rfl) (fun KK hKK => ?_)
  go_simp
  obtain ⟨w8, hw8⟩ : ∃ x, x = (w7.alloc (.cells (fresh ad seen) 38)).drew := ⟨_, rfl⟩
  rw [← hw8] at hbx hnx ⊢
  have hB8 : Hid (w8.heap[w.heap.size]? = some (.cells c 41 (0, 0))) := heap_below hbx hB7.out
  have hP8 : Hid (w8.heap[p]? = some (.cells ((N.setIfInBounds 71 (.bool false)).setIfInBounds 34 (.slice (some ⟨g2, 0, none⟩) (n + 1) c2)) 71 (0, 0))) := heap_below hbx hP7.out
  have hH8 : Hid (w8.heap[h]? = some (.cells C 38 (0, 0))) := heap_below hbx hH7.out
  refine hKK.out _ _ ⟨cell_heap hB8.out hc.addr, cell_heap hP8.out e35⟩ ?_
  clear hKK KK hw8
  refine wpTail_keep rfl (by rfl) (fun KK hKK => ?_)
  go_simp
  refine (insertEntry_any h n k' w7.heap.size C (fresh ad seen) _ hn hk hC hfs hC1 hf1 (by exact hH8.out) (by exact hnx)).mono ?_
  rintro e w9 ⟨⟨h2, d2, C2, rfl, hh2, hC2, hC2s, hC2r⟩, hb9⟩
  have hJ2 : Hid (Ins 6 n k' C (fresh ad seen) C2) := ⟨hC2s, hC2r⟩
  have hB9 : Hid (w9.heap[w.heap.size]? = some (.cells c 41 (0, 0))) := heap_below hb9 hB8.out
  have hP9 : Hid (w9.heap[p]? = some (.cells ((N.setIfInBounds 71 (.bool false)).setIfInBounds 34 (.slice (some ⟨g2, 0, none⟩) (n + 1) c2)) 71 (0, 0))) := heap_below hb9 hP8.out
  have hG9 : Hid (w9.heap[g2]? = some (.cells A2 30 (0, 0))) := heap_below hb9 (heap_below hbx hG7.out)
  have hH9 : Hid (w9.heap[h2]? = some (.cells C2 38 (0, 0))) := hC2
  refine hKK.out _ _ ⟨cell_heap hB9.out hc.addr, cell_heap hP9.out e35⟩ ?_
  have hb79 : Below w7.heap.size w7 w9 := hbx.trans (hb9.mono hbx.size)
  have hh2' : w.heap.size ≤ h2 := Nat.le_trans hk7.out.1 (Nat.le_trans hbx.size hh2)
  have hk9 : Hid (w.heap.size ≤ w9.heap.size ∧ (∀ b, b < w.heap.size → b ≠ p → w9.heap[b]? = w.heap[b]?) ∧ ∀ B, B ≤ p → B ≤ w.heap.size → Below B w w9) :=
    have h3 := hk7.out
    ⟨Nat.le_trans h3.1 hb79.size, fun b hb hbp => (hb79.block b (Nat.lt_of_lt_of_le hb h3.1)).trans (h3.2.1 b hb hbp), fun B hB1 hB2 => (h3.2.2 B hB1 hB2).trans (hb79.mono (Nat.le_trans hB2 h3.1))⟩
  have x1 := cell_heap hP9.out e35
  have x2 := frozen_heap (o := 35) hP9.out
  have hhne : h2 ≠ p := by omega
  clear hKK KK hB7 hP7 hH7 hG7 hk7 hbx hnx hB8 hP8 hH8 hb9 hb79 hh2 hC2 hC2s hC2r
  refine wpTail_list _ _ _ rfl ?_
  simp only [List.filterMap_cons, List.filterMap_nil, List.getElem?_cons_succ, List.getElem?_cons_zero]
  go_wp2_with fail
  go_ret
  have h9 := hk9.out
  refine ⟨rfl, g2, c2, h2, d2, A2, C2, heap_setCell_same hP9.out _, (Below.heap_setCell _ _ _ _ hgne).trans hG9.out, (Below.heap_setCell _ _ _ _ hhne).trans hH9.out, hg2', hh2', hI2.out, hJ2.out, ?_, fun b hb hbp => ?_, fun B hB1 hB2 => ?_⟩
  · simp [World.setCell]; exact h9.1
  · exact (Below.heap_setCell _ _ _ _ hbp).trans (h9.2.1 b hb hbp)
  · exact (h9.2.2 B hB1 hB2).setCell hB1 _
end Go.Proofs.Ybulkdzha
