/-
  THE WALKS of the closure that compares, and of BinarySearchFunc.
-/
import Derived.Test.YbulkdzeiDoorCCount
namespace Go.Proofs.YbulkdzeiDoor.C
open Go Go.RowKit

/-- The closure 'count' and what it has captured. -/
structure Env (w : World) (fb tb ab : Nat) (t : Int) (k : Nat) : Prop where
  f : w.cell? ⟨fb, 0, none⟩ = some (.func (.func 26) #[] #[.pointer (some ⟨tb, 0, none⟩), .pointer (some ⟨ab, 0, none⟩)])
  t : w.cell? ⟨tb, 0, none⟩ = some (.float .f64 (fi t))
  a : w.cell? ⟨ab, 0, none⟩ = some (.float .f64 (q4 k))

set_option maxRecDepth 100000 in
set_option maxHeartbeats 1000000 in
theorem cmp2_any (d t : Int) (q k fb tb ab : Nat) (w : World) (hd : d.natAbs < 100000) (ht : t.natAbs < 1000) (hk : 0 < k) (hk2 : k ≤ 16) (hq : q < 10000000) (he : Env w fb tb ab t k) :
    Calls Ybad.prog 28 #[.float .f64 (fi d), .float .f64 (fi (q : Int)), .pointer (some ⟨fb, 0, none⟩)] w fun e w' => e = .returned (.int .i64 (cmpI (cnt t k d : Int) (q : Int))) ∧ w' = w := by
  obtain ⟨c1, c2, c3⟩ := he
  have hcl := cnt_le (t := t) (d := d) (k := k) (by omega)
  obtain ⟨c, hc⟩ : ∃ c, cnt t k d = c := ⟨_, rfl⟩
  rw [hc] at hcl ⊢
  have HC := Hid.mk hc
  clear hc
  go_enter Ybad.func28, Ybad.ntmps28
  go_wp2_with fail
  refine (count_any d t k tb ab w hd ht hk hk2 c2 c3).mono ?_
  rintro e w' ⟨rfl, rfl⟩
  rw [HC.out]
  go_wp2_with fail
  refine (compare_any (c : Int) (q : Int) (by omega) (by omega) _).mono ?_
  rintro e w' ⟨rfl, rfl⟩
  go_wp2_with fail
  go_ret
  exact ⟨rfl, rfl⟩

/-- Where the counts reach q. -/
def Found (C : Nat → Nat) (n q i : Nat) : Prop := i ≤ n ∧ (∀ j, j < i → C j < q) ∧ ∀ j, i ≤ j → j < n → q ≤ C j

set_option maxRecDepth 100000 in
set_option maxHeartbeats 1000000 in
theorem search_any (E : Nat → Int) (t : Int) (bd f n cap q k fb tb ab : Nat) (w : World) (hn : n ≤ 4096) (hE : ∀ j, j < n → (E j).natAbs < 100000) (hm : ∀ i j, i ≤ j → j < n → E i ≤ E j) (ht : t.natAbs < 1000) (hk : 0 < k) (hk2 : k ≤ 16) (hq : q < 10000000) (he : Env w fb tb ab t k)
    (hc : ∀ j, j < n → w.cell? ⟨bd, f + j, none⟩ = some (.float .f64 (fi (E j)))) :
    Calls Ybad.prog 27 #[.slice (some ⟨bd, f, none⟩) n cap, .float .f64 (fi (q : Int)), .func (.func 28) #[] #[.pointer (some ⟨fb, 0, none⟩)]] w fun e w' => ∃ i b, e = .returned (.tuple #[.int .i64 (i : Nat), .bool b]) ∧ Found (fun j => cnt t k (E j)) n q i ∧ w' = w := by
  have HE := Hid.mk hE
  have HM := Hid.mk hm
  have HEV := Hid.mk he
  have HC := Hid.mk hc
  clear hE hm he hc
  go_enter Ybad.func27, Ybad.ntmps27
  go_wp2_with fail
  go_loopw [9, 10, 11] (fun ii jj _ wr => ∃ (i j : Nat), i ≤ j ∧ j ≤ n ∧ ii = .int .i64 (i : Int) ∧ jj = .int .i64 (j : Int) ∧ (∀ x, x < i → cnt t k (E x) < q) ∧ (∀ x, j ≤ x → x < n → q ≤ cnt t k (E x)) ∧ wr = w) (fun ii jj _ _ => (intOf jj).toNat - (intOf ii).toNat)
  case atStart => exact ⟨0, n, by omega, by omega, rfl, rfl, fun x h => by omega, fun x h1 h2 => by omega, rfl⟩
  case round =>
    obtain ⟨i, j, hij, hjn, rfl, rfl, h1, h2, hw⟩ := hrel
    rw [hw]
    clear hw
    have H1 := Hid.mk h1
    have H2 := Hid.mk h2
    clear h1 h2
    by_cases hlt : i < j
    · obtain ⟨h, hh⟩ : ∃ h, (i + j) / 2 = h := ⟨_, rfl⟩
      have hcell := HC.out h (by omega)
      have hx : ((i : Int) + (j : Int)) / 2 = (h : Int) := by omega
      have x0 : (0 : Int) ≤ (h : Int) := by omega
      have x1 : (h : Int) < (n : Int) := by omega
      have x2 : (i : Int) < (j : Int) := by omega
      have HX := Hid.mk hh
      clear hh
      go_wp2_with fail
      refine (cmp2_any (E h) t q k fb tb ab w (HE.out h (by omega)) ht hk hk2 hq HEV.out).mono ?_
      rintro e w' ⟨rfl, rfl⟩
      obtain ⟨c, hc⟩ : ∃ c, cnt t k (E h) = c := ⟨_, rfl⟩
      rw [hc]
      have HCC := Hid.mk hc
      have hh := HX.out
      clear hc
      by_cases hcq : c < q
      · have hcm : cmpI (c : Int) (q : Int) = -1 := by unfold cmpI; rw [if_pos (by omega)]
        rw [hcm]
        clear hcm
        have HH := Hid.mk hh
        clear hh
        go_wp2_with fail
        go_roundw
        case rel =>
          have hh := HH.out
          refine ⟨h + 1, j, by omega, hjn, by go_num, rfl, fun x hx => ?_, H2.out, by first | rfl | trivial⟩
          have h3 := HCC.out
          have h4 := cnt_mono (t := t) (k := k) (HM.out x h (by omega) (by omega))
          omega
        case measure => have hh := HH.out; simp [intOf]; omega
      · have hcm : 0 ≤ cmpI (c : Int) (q : Int) := by unfold cmpI; rw [if_neg (by omega)]; split <;> omega
        obtain ⟨z, hz⟩ : ∃ z, cmpI (c : Int) (q : Int) = z := ⟨_, rfl⟩
        rw [hz] at hcm ⊢
        have hz2 : ¬ z < 0 := by omega
        have hz3 : decide (z < 0) = false := by simp; omega
        have HH := Hid.mk hh
        clear hz hh
        go_wp2_with fail
        go_roundw
        case rel =>
          have hh := HH.out
          refine ⟨i, h, by omega, by omega, rfl, rfl, H1.out, fun x hx1 hx2 => ?_, by first | rfl | trivial⟩
          have h3 := HCC.out
          have h4 := cnt_mono (t := t) (k := k) (HM.out h x hx1 hx2)
          omega
        case measure => have hh := HH.out; simp [intOf]; omega
    · obtain rfl : i = j := by omega
      have HF : Hid (Found (fun j => cnt t k (E j)) n q i) := ⟨hjn, H1.out, H2.out⟩
      clear hlt hij
      by_cases hin : i < n
      · have hcell := HC.out i hin
        have x0 : (0 : Int) ≤ (i : Int) := by omega
        have x1 : (i : Int) < (n : Int) := by omega
        go_wp2_with fail
        refine (cmp2_any (E i) t q k fb tb ab w (HE.out i hin) ht hk hk2 hq HEV.out).mono ?_
        rintro e w' ⟨rfl, rfl⟩
        go_wp2_with fail
        go_ret2
        exact ⟨i, _, rfl, HF.out, rfl⟩
      · have x1 : ¬ ((i : Int) < (n : Int)) := by omega
        have x2 : decide ((i : Int) < (n : Int)) = false := by simp; omega
        go_wp2_with fail
        go_ret2
        exact ⟨i, .inl rfl, HF.out, rfl⟩
end Go.Proofs.YbulkdzeiDoor.C
