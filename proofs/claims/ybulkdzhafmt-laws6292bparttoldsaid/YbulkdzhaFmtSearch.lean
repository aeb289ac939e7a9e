/-
  THE WALKS of search and Owner.
-/
import Derived.Test.YbulkdzhaFmtWalks
import Derived.Deep.DeepCutAuto
import Derived.Deep.CutBlock
namespace Go.Proofs.YbulkdzhaFmt
open Go Go.RowKit
attribute [local go_sem ↓] loadAt25 storeAt25
attribute [local go_sem] run_load25 run_store25 run_eq25 guard25 has20_drew has20_drewN row20_drew row20_drewN soft_drew soft_drewN has20_alloc row20_alloc has20_new row20_new soft_alloc soft_new put20_new put20_drew

set_option maxRecDepth 100000 in
set_option maxHeartbeats 1000000 in
theorem search_any (g n cp : Nat) (arr c : Array Value) (hc : IsId c) (hA : Ids arr n) (hn : n ≤ 4096) (w : World) (hg : w.heap[g]? = some (.cells arr 25 (0, 0))) :
    Calls Ybaf.prog 10 #[.slice (some ⟨g, 0, none⟩) n cp, .agg c] w fun e w' => (∃ (k : Nat) (r : Bool), k ≤ n ∧ e = .returned (.tuple #[.int .i64 k, .bool r])) ∧ Below w.heap.size w w' := by
  have hcs := hc.1
  have HG := Hid.mk hg
  clear hg
  go_enter Ybaf.func10, Ybaf.ntmps10
  go_wp2_with fail
  refine (top_any c hc _).mono ?_
  rintro e w1 ⟨⟨x, rfl⟩, hb1⟩
  have HG1 : Hid (w1.heap[g]? = some (.cells arr 25 (0, 0))) := heap_below hb1 (heap_old HG.out _)
  have HI1 : Hid (w1.heap[w.heap.size]? = some (.cells c 25 (0, 0))) := heap_below hb1 (heap_alloc_new _ _)
  have hbel1 : Below w.heap.size w w1 := ((Below.refl _ _).alloc (Nat.le_refl _) _).trans (hb1.mono (by simp))
  clear hb1 HG
  go_wp2_with fail
  go_loopw [7, 8] (fun a b wr => ∃ lo hi : Nat, lo ≤ hi ∧ hi ≤ n ∧ a = .int .i64 (lo : Int) ∧ b = .int .i64 (hi : Int) ∧ Below w1.heap.size w1 wr) (fun a b _ => ((intOf b) - (intOf a)).toNat)
  case atStart => exact ⟨0, n, by omega, by omega, rfl, rfl, Below.refl _ _⟩
  case round =>
    obtain ⟨lo, hi, h1, h2, rfl, rfl, hb⟩ := hrel
    by_cases hlt : lo < hi
    · obtain ⟨d, hd, hrow⟩ : ∃ d, IsId d ∧ arr.extract ((lo + hi) / 2 * 20) ((lo + hi) / 2 * 20 + 20) = d := ⟨_, hA.2 ((lo + hi) / 2) (by omega), rfl⟩
      have q1 : has20 wr g ((lo + hi) / 2 * 20) := has20_of (heap_below hb HG1.out) hA (by omega)
      have q2 : row20 wr g ((lo + hi) / 2 * 20) = d := (row20_of (heap_below hb HG1.out)).trans hrow
      have hm0 : (0 : Int) ≤ ((lo : Int) + (hi : Int)) / 2 := by omega
      have hm1 : ((lo : Int) + (hi : Int)) / 2 < (n : Int) := by omega
      have hmn : (((lo : Int) + (hi : Int)) / 2).toNat = (lo + hi) / 2 := by omega
      have HB := Hid.mk hb
      have HROW := Hid.mk hrow
      clear hb hrow
      go_wp2_with fail
      refine (top_any d hd _).mono ?_
      rintro e w2 ⟨⟨t, rfl⟩, hb2⟩
      have HB2 : Hid (Below w1.heap.size w1 w2) := HB.out.trans (hb2.mono HB.out.size)
      clear HB q1 q2 hb2
      have HS : Hid (has20 w2 g ((lo + hi) / 2 * 20) ∧ row20 w2 g ((lo + hi) / 2 * 20) = d ∧ has20 w2 w.heap.size 0 ∧ row20 w2 w.heap.size 0 = c) :=
        ⟨has20_of (heap_below HB2.out HG1.out) hA (by omega), (row20_of (heap_below HB2.out HG1.out)).trans HROW.out, whole_has (heap_below HB2.out HI1.out) hc, whole_row (heap_below HB2.out HI1.out) hc⟩
      have fin : ∀ {w3 : World}, Below w2.heap.size w2 w3 → Below w1.heap.size w1 w3 := fun h => HB2.out.trans (h.mono HB2.out.size)
      go_upto_region 6 with fail
      go_cut [45] (fun s wx => ∃ r, s = .bool r ∧ Below w1.heap.size w1 wx)
      case first =>
        by_cases h3 : t < x
        · refine wp_region_pick [0, 1, 2, 3, 4, 5, 6, 7, 8, 9, 10, 11, 12, 13, 14, 15, 16] [] [0, 1, 2, 3, 4, 5, 6, 7, 8, 9, 10, 11, 12, 13, 14, 15, 16] (fun _ => True) (by kernel_rfl) (by kernel_rfl) (fun _ _ d _ _ h => by cases d <;> exact h) trivial ?_
          iterate 17 ((first | (refine wpHead_cons (v := ?_) rfl (by rfl) ?_ ?_; rotate_left 1; (focus (intro w0 hS0; go_simp; first | done | with_reducible rfl))) | (refine wpHead_skip rfl (by rfl) ?_)); simp only [Act.put, List.setIfInBounds_toArray, List.set_cons_zero, List.set_cons_succ])
          refine wpHead_nil ?_
          refine wpTail_nil ?_
          go_wp2
          go_meet
          case rel => exact ⟨_, rfl, HB2.out.drew⟩
        · by_cases h4 : t = x
          · have h4b : (t == x) = true := by simp [h4]
            have h3b : decide (t < x) = false := by simp [h3]
            clear h4
            refine wp_region_pick [0, 1, 2, 3, 4, 5, 6, 7, 8, 9, 10, 11, 12] [13, 14, 15, 16] [0, 1, 2, 3, 4, 5, 6, 7, 8, 9, 10, 11, 12] (fun w' => has20 w' g ((lo + hi) / 2 * 20) ∧ row20 w' g ((lo + hi) / 2 * 20) = d ∧ has20 w' w.heap.size 0 ∧ row20 w' w.heap.size 0 = c) (by kernel_rfl) (by kernel_rfl) (fun _ _ d _ _ h => by cases d <;> exact h) HS.out ?_
            iterate 13 ((first | (refine wpHead_cons (v := ?_) rfl (by rfl) ?_ ?_; rotate_left 1; (focus (intro w0 hS0; go_simp; first | done | with_reducible rfl))) | (refine wpHead_skip rfl (by rfl) ?_)); simp only [Act.put, List.setIfInBounds_toArray, List.set_cons_zero, List.set_cons_succ])
            refine wpHead_nil ?_
            refine wpTail_list _ _ _ rfl ?_
            simp only [List.filterMap_cons, List.filterMap_nil, List.getElem?_cons_succ, List.getElem?_cons_zero]
            go_wp2_with fail
            refine (compare_any d c hd hc _).mono ?_
            rintro e w3 ⟨⟨r, rfl⟩, hb3⟩
            go_wp2
            go_meet
            case rel => exact ⟨_, rfl, HB2.out.drew.trans (hb3.mono HB2.out.size)⟩
          · have h4b : (t == x) = false := by simp [h4]
            have h3b : decide (t < x) = false := by simp [h3]
            refine wp_region_pick [0, 1, 2, 3, 4, 5, 6, 7, 8, 9, 10, 11, 12, 13, 14, 15, 16] [] [0, 1, 2, 3, 4, 5, 6, 7, 8, 9, 10, 11, 12, 13, 14, 15, 16] (fun _ => True) (by kernel_rfl) (by kernel_rfl) (fun _ _ d _ _ h => by cases d <;> exact h) trivial ?_
            iterate 17 ((first | (refine wpHead_cons (v := ?_) rfl (by rfl) ?_ ?_; rotate_left 1; (focus (intro w0 hS0; go_simp; first | done | with_reducible rfl))) | (refine wpHead_skip rfl (by rfl) ?_)); simp only [Act.put, List.setIfInBounds_toArray, List.set_cons_zero, List.set_cons_succ])
            refine wpHead_nil ?_
            refine wpTail_nil ?_
            go_wp2
            go_meet
            case rel => exact ⟨_, rfl, HB2.out.drew⟩
      case rest =>
        obtain ⟨r, rfl, hbc⟩ := hcut
        cases r
        · go_wp2
          go_roundw
          case rel => exact ⟨lo, (lo + hi) / 2, by omega, by omega, rfl, by go_num, hbc⟩
          case measure => simp [intOf]; omega
        · go_wp2
          go_roundw
          case rel => exact ⟨(lo + hi) / 2 + 1, hi, by omega, by omega, by go_num, rfl, hbc⟩
          case measure => simp [intOf]; omega
    · obtain rfl : lo = hi := by omega
      have hbr : Below w.heap.size w wr := hbel1.trans (hb.mono hbel1.size)
      by_cases hlo : lo < n
      · obtain ⟨d, hd, hrow⟩ : ∃ d, IsId d ∧ arr.extract (lo * 20) (lo * 20 + 20) = d := ⟨_, hA.2 lo hlo, rfl⟩
        have q1 : has20 wr g (lo * 20) := has20_of (heap_below hb HG1.out) hA (by omega)
        have q2 : row20 wr g (lo * 20) = d := (row20_of (heap_below hb HG1.out)).trans hrow
        have q3 := whole_has (heap_below hb HI1.out) hc
        have q4 := whole_row (heap_below hb HI1.out) hc
        have l0 : (0 : Int) ≤ (lo : Int) := by omega
        have l1 : (lo : Int) < (n : Int) := by omega
        clear hrow
        go_wp2_with fail
        go_quiet (fail)
        go_wp2
        go_ret2
        exact ⟨⟨lo, _, by omega, rfl⟩, below_drewN hbr _⟩
      · have l1 : decide ((lo : Int) < (n : Int)) = false := by simp; omega
        go_wp2_with fail
        go_quiet (fail)
        go_wp2
        go_ret2
        exact ⟨⟨lo, _, by omega, rfl⟩, below_drewN hbr _⟩

end Go.Proofs.YbulkdzhaFmt
