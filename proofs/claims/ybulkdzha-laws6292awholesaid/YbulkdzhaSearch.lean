/-
  THE WALK of search, with its answer.
-/
import Derived.Test.YbulkdzhaCmp
namespace Go.Proofs.Ybulkdzha
open Go Go.RowKit
attribute [local go_sem ↓] loadAt25 storeAt25
attribute [local go_sem] run_load25 run_store25 run_eq25 guard25 has20_drew has20_drewN row20_drew row20_drewN soft_drew soft_drewN has20_alloc row20_alloc has20_new row20_new soft_alloc soft_new put20_new put20_drew

/-- The block holds the identifiers of n numbers, each greater than the one before. -/
structure Keys (arr : Array Value) (n : Nat) (K : Nat → Nat) : Prop where
  size : n * 20 ≤ arr.size
  row : ∀ k, k < n → arr.extract (k * 20) (k * 20 + 20) = idv (K k)
  lt : ∀ k, k < n → K k < 4294967296
  mono : ∀ i j, i < j → j < n → K i < K j
theorem Keys.ids {arr : Array Value} {n : Nat} {K : Nat → Nat} (h : Keys arr n K) : Ids arr n := ⟨h.size, fun k hk => by rw [h.row k hk]; exact idv_isId _ (h.lt k hk)⟩
theorem Keys.le {arr : Array Value} {n : Nat} {K : Nat → Nat} (h : Keys arr n K) {i j : Nat} (hij : i ≤ j) (hj : j < n) : K i ≤ K j := by
  rcases Nat.eq_or_lt_of_le hij with rfl | h1
  · exact Nat.le_refl _
  · exact Nat.le_of_lt (h.mono i j h1 hj)

set_option maxRecDepth 100000 in
set_option maxHeartbeats 1000000 in
theorem search_any (g n cp u : Nat) (arr : Array Value) (K : Nat → Nat) (hu : u < 4294967296) (hK : Keys arr n K) (hn : n ≤ 65536) (w : World) (hg : w.heap[g]? = some (.cells arr 30 (0, 0))) :
    Calls Yba.prog 9 #[.slice (some ⟨g, 0, none⟩) n cp, .agg (idv u)] w fun e w' => (∃ k : Nat, k ≤ n ∧ (∀ i, i < k → K i < u) ∧ (∀ i, k ≤ i → i < n → u ≤ K i) ∧ e = .returned (.tuple #[.int .i64 k, .bool (decide (k < n ∧ K k = u))])) ∧ Below w.heap.size w w' := by
  have hc := idv_isId u hu
  have hA := hK.ids
  have hcs := hc.1
  have HG := Hid.mk hg
  clear hg
  go_enter Yba.func9, Yba.ntmps9
  go_wp2_with fail
  refine (top_any u hu _).mono ?_
  rintro e w1 ⟨rfl, hb1⟩
  obtain ⟨x, hx⟩ : ∃ x : Nat, u / 65536 = x := ⟨_, rfl⟩
  rw [hx]
  have HX := Hid.mk hx
  clear hx
  have HG1 : Hid (w1.heap[g]? = some (.cells arr 30 (0, 0))) := heap_below hb1 (heap_old HG.out _)
  have HI1 : Hid (w1.heap[w.heap.size]? = some (.cells (idv u) 30 (0, 0))) := heap_below hb1 (heap_alloc_new _ _)
  have hbel1 : Below w.heap.size w w1 := ((Below.refl _ _).alloc (Nat.le_refl _) _).trans (hb1.mono (by simp))
  clear hb1 HG
  go_wp2_with fail
  go_loopw [7, 8] (fun a b wr => ∃ lo hi : Nat, lo ≤ hi ∧ hi ≤ n ∧ (∀ i, i < lo → K i < u) ∧ (∀ i, hi ≤ i → i < n → u ≤ K i) ∧ a = .int .i64 (lo : Int) ∧ b = .int .i64 (hi : Int) ∧ Below w1.heap.size w1 wr) (fun a b _ => ((intOf b) - (intOf a)).toNat)
  case atStart => exact ⟨0, n, by omega, by omega, fun i hi => absurd hi (Nat.not_lt_zero _), fun i h1 h2 => absurd h2 (by omega), rfl, rfl, Below.refl _ _⟩
  case round =>
    obtain ⟨lo, hi, h1, h2, hlo, hhi, rfl, rfl, hb⟩ := hrel
    have HLO := Hid.mk hlo
    have HHI := Hid.mk hhi
    clear hlo hhi
    by_cases hlt : lo < hi
    · obtain ⟨q, hq⟩ : ∃ q : Nat, K ((lo + hi) / 2) = q := ⟨_, rfl⟩
      have hq32 : q < 4294967296 := by rw [← hq]; exact hK.lt _ (by omega)
      have hd := idv_isId q hq32
      have hrow : arr.extract ((lo + hi) / 2 * 20) ((lo + hi) / 2 * 20 + 20) = idv q := by rw [← hq]; exact hK.row _ (by omega)
      have HQ := Hid.mk hq
      clear hq
      have q1 : has20 wr g ((lo + hi) / 2 * 20) := has20_of (heap_below hb HG1.out) hA (by omega)
      have q2 : row20 wr g ((lo + hi) / 2 * 20) = idv q := (row20_of (heap_below hb HG1.out)).trans hrow
      have hm0 : (0 : Int) ≤ ((lo : Int) + (hi : Int)) / 2 := by omega
      have hm1 : ((lo : Int) + (hi : Int)) / 2 < (n : Int) := by omega
      have hmn : (((lo : Int) + (hi : Int)) / 2).toNat = (lo + hi) / 2 := by omega
      have HB := Hid.mk hb
      have HROW := Hid.mk hrow
      clear hb hrow
      go_wp2_with fail
      refine (top_any q hq32 _).mono ?_
      rintro e w2 ⟨rfl, hb2⟩
      obtain ⟨t, ht⟩ : ∃ t : Nat, q / 65536 = t := ⟨_, rfl⟩
      rw [ht]
      have HT := Hid.mk ht
      clear ht
      have HB2 : Hid (Below w1.heap.size w1 w2) := HB.out.trans (hb2.mono HB.out.size)
      clear HB q1 q2 hb2
      have HS : Hid (has20 w2 g ((lo + hi) / 2 * 20) ∧ row20 w2 g ((lo + hi) / 2 * 20) = idv q ∧ has20 w2 w.heap.size 0 ∧ row20 w2 w.heap.size 0 = idv u) :=
        ⟨has20_of (heap_below HB2.out HG1.out) hA (by omega), (row20_of (heap_below HB2.out HG1.out)).trans HROW.out, whole_has (heap_below HB2.out HI1.out) hc, whole_row (heap_below HB2.out HI1.out) hc⟩
      have fin : ∀ {w3 : World}, Below w2.heap.size w2 w3 → Below w1.heap.size w1 w3 := fun h => HB2.out.trans (h.mono HB2.out.size)
      go_upto_region 6 with fail
      go_cut [45] (fun s wx => s = .bool (decide (q < u)) ∧ Below w1.heap.size w1 wx)
      case first =>
        by_cases h3 : t < x
        · have h3b : decide ((t : Int) < (x : Int)) = true := by simp; omega
          have h3n : decide (t < x) = true := by simp; omega
          have hqu : decide (q < u) = true := by have h1 := HX.out; have h2 := HT.out; simp; omega
          refine wp_region_pick [0, 1, 2, 3, 4, 5, 6, 7, 8, 9, 10, 11, 12, 13, 14, 15, 16] [] [0, 1, 2, 3, 4, 5, 6, 7, 8, 9, 10, 11, 12, 13, 14, 15, 16] (fun _ => True) (by kernel_rfl) (by kernel_rfl) (fun _ _ d _ _ h => by cases d <;> exact h) trivial ?_
          iterate 17 ((first | (refine wpHead_cons (v := ?_) rfl (by rfl) ?_ ?_; rotate_left 1; (focus (intro w0 hS0; go_simp; first | done | with_reducible rfl))) | (refine wpHead_skip rfl (by rfl) ?_)); simp only [Act.put, List.setIfInBounds_toArray, List.set_cons_zero, List.set_cons_succ])
          refine wpHead_nil ?_
          refine wpTail_nil ?_
          go_wp2
          go_meet
          case rel => exact ⟨by rw [hqu], HB2.out.drew⟩
        · by_cases h4 : t = x
          · have h4b : ((t : Int) == (x : Int)) = true := by simp [h4]
            have h4n : (t == x) = true := by simp [h4]
            have h3b : decide ((t : Int) < (x : Int)) = false := by simp; omega
            have h3n : decide (t < x) = false := by simp; omega
            clear h4 h3
            refine wp_region_pick [0, 1, 2, 3, 4, 5, 6, 7, 8, 9, 10, 11, 12] [13, 14, 15, 16] [0, 1, 2, 3, 4, 5, 6, 7, 8, 9, 10, 11, 12] (fun w' => has20 w' g ((lo + hi) / 2 * 20) ∧ row20 w' g ((lo + hi) / 2 * 20) = idv q ∧ has20 w' w.heap.size 0 ∧ row20 w' w.heap.size 0 = idv u) (by kernel_rfl) (by kernel_rfl) (fun _ _ d _ _ h => by cases d <;> exact h) HS.out ?_
            iterate 13 ((first | (refine wpHead_cons (v := ?_) rfl (by rfl) ?_ ?_; rotate_left 1; (focus (intro w0 hS0; go_simp; first | done | with_reducible rfl))) | (refine wpHead_skip rfl (by rfl) ?_)); simp only [Act.put, List.setIfInBounds_toArray, List.set_cons_zero, List.set_cons_succ])
            refine wpHead_nil ?_
            refine wpTail_list _ _ _ rfl ?_
            simp only [List.filterMap_cons, List.filterMap_nil, List.getElem?_cons_succ, List.getElem?_cons_zero]
            go_wp2_with fail
            refine (compare_any q u hq32 hu _).mono ?_
            rintro e w3 ⟨⟨r, rfl, hr⟩, hb3⟩
            have hrd : decide (r < 0) = decide (q < u) := by rw [decide_eq_decide]; exact hr
            clear hr
            go_wp2
            go_meet
            case rel => exact ⟨rfl, HB2.out.drew.trans (hb3.mono HB2.out.size)⟩
          · have h4b : ((t : Int) == (x : Int)) = false := by simp; omega
            have h4n : (t == x) = false := by simp; omega
            have h3b : decide ((t : Int) < (x : Int)) = false := by simp; omega
            have h3n : decide (t < x) = false := by simp; omega
            have hqu : decide (q < u) = false := by have h1 := HX.out; have h2 := HT.out; simp; omega
            refine wp_region_pick [0, 1, 2, 3, 4, 5, 6, 7, 8, 9, 10, 11, 12, 13, 14, 15, 16] [] [0, 1, 2, 3, 4, 5, 6, 7, 8, 9, 10, 11, 12, 13, 14, 15, 16] (fun _ => True) (by kernel_rfl) (by kernel_rfl) (fun _ _ d _ _ h => by cases d <;> exact h) trivial ?_
            iterate 17 ((first | (refine wpHead_cons (v := ?_) rfl (by rfl) ?_ ?_; rotate_left 1; (focus (intro w0 hS0; go_simp; first | done | with_reducible rfl))) | (refine wpHead_skip rfl (by rfl) ?_)); simp only [Act.put, List.setIfInBounds_toArray, List.set_cons_zero, List.set_cons_succ])
            refine wpHead_nil ?_
            refine wpTail_nil ?_
            go_wp2
            go_meet
            case rel => exact ⟨by rw [hqu], HB2.out.drew⟩
      case rest =>
        obtain ⟨rfl, hbc⟩ := hcut
        cases hqu : decide (q < u)
        · go_wp2
          go_roundw
          case rel => exact ⟨lo, (lo + hi) / 2, by omega, by omega, HLO.out, fun i h3 h4 => by
            have h5 : u ≤ q := by simpa using hqu
            have h6 := hK.le (show (lo + hi) / 2 ≤ i by omega) h4
            rw [HQ.out] at h6; omega, rfl, by go_num, hbc⟩
          case measure => simp [intOf]; omega
        · go_wp2
          go_roundw
          case rel => exact ⟨(lo + hi) / 2 + 1, hi, by omega, by omega, fun i h3 => by
            have h5 : q < u := by simpa using hqu
            have h6 := hK.le (show i ≤ (lo + hi) / 2 by omega) (by omega)
            rw [HQ.out] at h6; omega, HHI.out, by go_num, rfl, hbc⟩
          case measure => simp [intOf]; omega
    · obtain rfl : lo = hi := by omega
      have hbr : Below w.heap.size w wr := hbel1.trans (hb.mono hbel1.size)
      by_cases hlo : lo < n
      · obtain ⟨q, hq⟩ : ∃ q : Nat, K lo = q := ⟨_, rfl⟩
        have hq32 : q < 4294967296 := by rw [← hq]; exact hK.lt _ hlo
        have hd := idv_isId q hq32
        have hrow : arr.extract (lo * 20) (lo * 20 + 20) = idv q := by rw [← hq]; exact hK.row _ hlo
        have q1 : has20 wr g (lo * 20) := has20_of (heap_below hb HG1.out) hA (by omega)
        have q2 : row20 wr g (lo * 20) = idv q := (row20_of (heap_below hb HG1.out)).trans hrow
        have q3 := whole_has (heap_below hb HI1.out) hc
        have q4 := whole_row (heap_below hb HI1.out) hc
        have l0 : (0 : Int) ≤ (lo : Int) := by omega
        have l1 : (lo : Int) < (n : Int) := by omega
        have hsm := idv_same q u hq32 hu
        have HQ := Hid.mk hq
        clear hrow hq
        go_wp2_with fail
        go_quiet (fail)
        go_wp2
        go_ret2
        refine ⟨⟨lo, by omega, HLO.out, HHI.out, ?_⟩, below_drewN hbr _⟩
        rw [HQ.out]
        simp [hlo]
      · have l1 : decide ((lo : Int) < (n : Int)) = false := by simp; omega
        go_wp2_with fail
        go_quiet (fail)
        go_wp2
        go_ret2
        refine ⟨⟨lo, by omega, HLO.out, HHI.out, ?_⟩, below_drewN hbr _⟩
        simp [hlo]

end Go.Proofs.Ybulkdzha
