/-
  THE WALKS of package time's small functions, at times without a monotonic reading.
-/
import Derived.Test.YbulkdzgmMeth
import Derived.Laws.Bits64b
namespace Go.Proofs.Ybulkdzgm
open Go Go.RowKit

theorem band_low (x : Int) (h0 : 0 ≤ x) (h1 : x < 1000000000) : bits .and .u64 x 1073741823 = x := by
  obtain ⟨n, rfl⟩ := Int.eq_ofNat_of_zero_le h0
  have h := bits_and_u64_nat n 1073741823 (by omega) (by omega)
  rw [show (1073741823 : Int) = ((1073741823 : Nat) : Int) from rfl, h]
  have e : n &&& 1073741823 = n % 1073741824 := Nat.and_two_pow_sub_one_eq_mod n 30
  rw [e, Nat.mod_eq_of_lt (by omega)]
theorem band_top (x : Int) (h0 : 0 ≤ x) (h1 : x < 1000000000) : bits .and .u64 x 9223372036854775808 = 0 := by
  obtain ⟨n, rfl⟩ := Int.eq_ofNat_of_zero_le h0
  have h := bits_and_u64_nat n 9223372036854775808 (by omega) (by omega)
  rw [show (9223372036854775808 : Int) = ((9223372036854775808 : Nat) : Int) from rfl, h]
  have e : n &&& 2 ^ 63 = 0 := by
    apply Nat.eq_of_testBit_eq
    intro i
    rw [Nat.testBit_and, Nat.testBit_two_pow, Nat.zero_testBit]
    by_cases hi : 63 = i
    · subst hi
      rw [Nat.testBit_lt_two_pow (Nat.lt_of_lt_of_le (show n < 1000000000 by omega) (by decide))]; rfl
    · simp [hi]
  rw [show (9223372036854775808 : Nat) = 2 ^ 63 from rfl, e]; rfl

set_option maxRecDepth 100000 in
theorem nsec_any (p o : Nat) (x : Int) (w : World) (h0 : 0 ≤ x) (h1 : x < 1000000000) (h : w.cell? ⟨p, o, none⟩ = some (.int .u64 x)) :
    Calls Yba.prog 14 #[.pointer (some ⟨p, o, none⟩)] w fun e w' => e = .returned (.int .i32 x) ∧ w' = w := by
  have hb := band_low x h0 h1
  have hw : wrap32 x = x := by unfold wrap32; omega
  go_enter Yba.func14, Yba.ntmps14
  go_wp2_with fail
  go_ret
  exact ⟨rfl, rfl⟩
set_option maxRecDepth 100000 in
theorem sec_any (p o : Nat) (x y : Int) (w : World) (h0 : 0 ≤ x) (h1 : x < 1000000000) (h : w.cell? ⟨p, o, none⟩ = some (.int .u64 x)) (h2 : w.cell? ⟨p, o + 1, none⟩ = some (.int .i64 y)) :
    Calls Yba.prog 23 #[.pointer (some ⟨p, o, none⟩)] w fun e w' => e = .returned (.int .i64 y) ∧ w' = w := by
  have hb := band_top x h0 h1
  go_enter Yba.func23, Yba.ntmps23
  go_wp2_with fail
  go_ret
  exact ⟨rfl, rfl⟩
set_option maxRecDepth 100000 in
theorem addSec_any (p o : Nat) (x d : Int) (w : World) (h0 : 0 ≤ x) (h1 : x < 1000000000) (hd0 : -9223372037 ≤ d) (hd1 : d ≤ 9223372037) (h : w.cell? ⟨p, o, none⟩ = some (.int .u64 x)) (h2 : w.cell? ⟨p, o + 1, none⟩ = some (.int .i64 0)) (hf : w.frozen? ⟨p, o + 1, none⟩ = false) :
    Calls Yba.prog 15 #[.pointer (some ⟨p, o, none⟩), .int .i64 d] w fun e w' => e = .returned (.tuple #[]) ∧ w' = w.setCell ⟨p, o + 1, none⟩ (.int .i64 d) := by
  have hb := band_top x h0 h1
  have hw : IntKind.i64.wrap d = d := by rw [IntKind.wrap_i64]; omega
  by_cases hp : 0 < d
  · have hpd : decide (0 < d) = true := by simp [hp]
    go_enter Yba.func15, Yba.ntmps15
    go_wp2_with fail
    go_end0
    exact ⟨rfl, rfl⟩
  · have hpd : decide (0 < d) = false := by simp; omega
    go_enter Yba.func15, Yba.ntmps15
    go_wp2_with fail
    go_end0
    exact ⟨rfl, rfl⟩

/-- The time that lies d nanoseconds behind the zero time. -/
def tm (d : Int) : Array Value := #[.int .u64 (d % 1000000000), .int .i64 (d / 1000000000), .pointer none]

theorem bor_zero (x : Int) (h0 : 0 ≤ x) (h1 : x < 1000000000) : bits .or .u64 0 x = x := by
  obtain ⟨n, rfl⟩ := Int.eq_ofNat_of_zero_le h0
  have h := bits_or_u64_nat 0 n (by omega) (by omega)
  rw [show (0 : Int) = ((0 : Nat) : Int) from rfl, h, Nat.zero_or]
theorem bandnot_zero : bits .andNot .u64 0 1073741823 = 0 := by kernel_rfl

set_option maxRecDepth 100000 in
set_option maxHeartbeats 1000000 in
theorem add0_any (d : Int) (w : World) (hd0 : -9223372036854775808 ≤ d) (hd1 : d ≤ 9223372036854775807) :
    Calls Yba.prog 5 #[.agg #[.int .u64 0, .int .i64 0, .pointer none], .int .i64 d] w fun e w' => e = .returned (.agg (tm d)) ∧ Below w.heap.size w w' := by
  obtain ⟨q, hq⟩ : ∃ q, d.tdiv 1000000000 = q := ⟨_, rfl⟩
  obtain ⟨r, hr⟩ : ∃ r, d.tmod 1000000000 = r := ⟨_, rfl⟩
  have hdq : 1000000000 * q + r = d := by rw [← hq, ← hr]; exact Int.mul_tdiv_add_tmod d 1000000000
  have hr1 : r < 1000000000 := by rw [← hr]; have := Int.tmod_lt_of_pos d (show (0 : Int) < 1000000000 by omega); exact this
  have hr0 : -1000000000 < r := by
    rw [← hr]
    have h := Int.tmod_lt_of_pos (-d) (show (0 : Int) < 1000000000 by omega)
    rw [Int.neg_tmod] at h
    omega
  have hw : wrap32 r = r := by unfold wrap32; omega
  have hge : decide (1000000000 ≤ r) = false := by simp; omega
  have hbz := bandnot_zero
  by_cases hneg : r < 0
  · have hlt : decide (r < 0) = true := by simp [hneg]
    have hw2 : wrap32 (r + 1000000000) = r + 1000000000 := by unfold wrap32; omega
    have hbo := bor_zero (r + 1000000000) (by omega) (by omega)
    have hbt := band_top (r + 1000000000) (by omega) (by omega)
    have hwq : IntKind.i64.wrap (q - 1) = q - 1 := by rw [IntKind.wrap_i64]; omega
    have htm : tm d = #[.int .u64 (r + 1000000000), .int .i64 (q - 1), .pointer none] := by
      unfold tm
      rw [show d % 1000000000 = r + 1000000000 by omega, show d / 1000000000 = q - 1 by omega]
    rw [htm]
    go_enter Yba.func5, Yba.ntmps5
    go_wp2_with fail
    refine (nsec_any w.heap.size 0 0 _ (by omega) (by omega) (by exact cell_heap (heap_alloc1 _ _ _) rfl)).mono ?_
    rintro e w1 ⟨rfl, rfl⟩
    go_wp2_with fail
    refine (addSec_any w.heap.size 0 (r + 1000000000) (q - 1) _ (by omega) (by omega) (by omega) (by omega) (by exact cell_heap (heap_alloc1 _ _ _) rfl) (by exact cell_heap (heap_alloc1 _ _ _) rfl) (by exact frozen_heap (heap_alloc1 _ _ _))).mono ?_
    rintro e w1 ⟨rfl, rfl⟩
    go_wp2_with fail
    refine bodyPost_ret (v := .agg #[.int .u64 (r + 1000000000), .int .i64 (q - 1), .pointer none]) ?_ rfl ⟨rfl, ((Below.refl _ _).alloc (Nat.le_refl _) _).alloc (by simp) _⟩
    simp [results, Yba.results5, go_sem]
  · have hlt : decide (r < 0) = false := by simp; omega
    have hbo := bor_zero r (by omega) (by omega)
    have hbt := band_top r (by omega) (by omega)
    have htm : tm d = #[.int .u64 r, .int .i64 q, .pointer none] := by
      unfold tm
      rw [show d % 1000000000 = r by omega, show d / 1000000000 = q by omega]
    rw [htm]
    go_enter Yba.func5, Yba.ntmps5
    go_wp2_with fail
    refine (nsec_any w.heap.size 0 0 _ (by omega) (by omega) (by exact cell_heap (heap_alloc1 _ _ _) rfl)).mono ?_
    rintro e w1 ⟨rfl, rfl⟩
    go_wp2_with fail
    refine (addSec_any w.heap.size 0 r q _ (by omega) (by omega) (by omega) (by omega) (by exact cell_heap (heap_alloc1 _ _ _) rfl) (by exact cell_heap (heap_alloc1 _ _ _) rfl) (by exact frozen_heap (heap_alloc1 _ _ _))).mono ?_
    rintro e w1 ⟨rfl, rfl⟩
    go_wp2_with fail
    refine bodyPost_ret (v := .agg #[.int .u64 r, .int .i64 q, .pointer none]) ?_ rfl ⟨rfl, ((Below.refl _ _).alloc (Nat.le_refl _) _).alloc (by simp) _⟩
    simp [results, Yba.results5, go_sem]

set_option maxRecDepth 100000 in
theorem isZero_any (d : Int) (w : World) : Calls Yba.prog 19 #[.agg (tm d)] w fun e w' => e = .returned (.bool (d == 0)) ∧ Below w.heap.size w w' := by
  unfold tm
  obtain ⟨r, hr⟩ : ∃ r, d % 1000000000 = r := ⟨_, rfl⟩
  obtain ⟨q, hq⟩ : ∃ q, d / 1000000000 = q := ⟨_, rfl⟩
  rw [hr, hq]
  by_cases h1 : r = 0
  · have h2 : (q == 0) = (d == 0) := by rw [Bool.eq_iff_iff]; simp; omega
    have hr0 : (r == 0) = true := by simp [h1]
    have HB := Hid.mk h2
    clear h2 h1 hr hq
    go_enter Yba.func19, Yba.ntmps19
    go_wp2_with fail
    go_ret
    refine ⟨?_, (Below.refl _ _).alloc (Nat.le_refl _) _⟩
    rw [← HB.out]; rfl
  · have h2 : (d == 0) = false := by simp; omega
    have hr0 : (r == 0) = false := by simp [h1]
    rw [h2]
    clear h2 hr hq
    go_enter Yba.func19, Yba.ntmps19
    go_wp2_with fail
    go_ret
    exact ⟨rfl, (Below.refl _ _).alloc (Nat.le_refl _) _⟩

/-- The sign of a comparison. -/
def cmpZ (a b : Int) : Int := if a < b then -1 else if b < a then 1 else 0

set_option maxRecDepth 100000 in
set_option maxHeartbeats 1000000 in
theorem compare_any (d e : Int) (w : World) : Calls Yba.prog 26 #[.agg (tm d), .agg (tm e)] w fun x w' => x = .returned (.int .i64 (cmpZ d e)) ∧ Below w.heap.size w w' := by
  obtain ⟨z, hz⟩ : ∃ z, cmpZ d e = z := ⟨_, rfl⟩
  rw [hz]
  unfold cmpZ at hz
  unfold tm
  obtain ⟨r, hr⟩ : ∃ r, d % 1000000000 = r := ⟨_, rfl⟩
  obtain ⟨q, hq⟩ : ∃ q, d / 1000000000 = q := ⟨_, rfl⟩
  obtain ⟨s, hs⟩ : ∃ r, e % 1000000000 = r := ⟨_, rfl⟩
  obtain ⟨t, ht⟩ : ∃ q, e / 1000000000 = q := ⟨_, rfl⟩
  rw [hr, hq, hs, ht]
  have r0 : 0 ≤ r ∧ r < 1000000000 := by omega
  have s0 : 0 ≤ s ∧ s < 1000000000 := by omega
  obtain ⟨r0, r1⟩ := r0
  obtain ⟨s0, s1⟩ := s0
  have hd : d = 1000000000 * q + r := by omega
  have he : e = 1000000000 * t + s := by omega
  clear hr hq hs ht
  have hbb : bits .and .u64 (bits .and .u64 r s) 9223372036854775808 = 0 := by
    obtain ⟨n, rfl⟩ := Int.eq_ofNat_of_zero_le r0
    obtain ⟨m, rfl⟩ := Int.eq_ofNat_of_zero_le s0
    rw [bits_and_u64_nat n m (by omega) (by omega)]
    have := Nat.and_le_left (n := n) (m := m)
    exact band_top _ (by omega) (by omega)
  have hw1 : IntKind.i64.wrap r = r := by rw [IntKind.wrap_i64]; omega
  have hw2 : IntKind.i64.wrap s = s := by rw [IntKind.wrap_i64]; omega
  have HZ := Hid.mk hz
  have HD := Hid.mk hd
  have HE := Hid.mk he
  clear hz hd he
  have c1 : ∀ {wx : World}, wx = ((w.alloc (.cells #[.int .u64 r, .int .i64 q, .pointer none] 45)).alloc (.cells #[.int .u64 s, .int .i64 t, .pointer none] 45)) → wx.heap[w.heap.size]? = some (.cells #[.int .u64 r, .int .i64 q, .pointer none] 45 (0, 0)) ∧ wx.heap[w.heap.size + 1]? = some (.cells #[.int .u64 s, .int .i64 t, .pointer none] 45 (0, 0)) := fun h => by
    rw [h]; exact ⟨heap_alloc1 _ _ _, heap_alloc2 _ _ _⟩
  have HC : Hid (∀ {wx : World}, wx = ((w.alloc (.cells #[.int .u64 r, .int .i64 q, .pointer none] 45)).alloc (.cells #[.int .u64 s, .int .i64 t, .pointer none] 45)) → wx.heap[w.heap.size]? = some (.cells #[.int .u64 r, .int .i64 q, .pointer none] 45 (0, 0)) ∧ wx.heap[w.heap.size + 1]? = some (.cells #[.int .u64 s, .int .i64 t, .pointer none] 45 (0, 0))) := c1
  clear c1
  go_enter Yba.func26, Yba.ntmps26
  go_wp2_with fail
  refine (sec_any w.heap.size 0 r q _ r0 r1 (by exact cell_heap (HC.out rfl).1 rfl) (by exact cell_heap (HC.out rfl).1 rfl)).mono ?_
  rintro e w1 ⟨rfl, rfl⟩
  go_wp2_with fail
  refine (sec_any (w.heap.size + 1) 0 s t _ s0 s1 (by exact cell_heap (HC.out rfl).2 rfl) (by exact cell_heap (HC.out rfl).2 rfl)).mono ?_
  rintro e w1 ⟨rfl, rfl⟩
  by_cases hqt : q = t
  · have hqb : (q == t) = true := by simp [hqt]
    have HQ := Hid.mk hqt
    clear hqt
    go_wp2_with fail
    refine (nsec_any w.heap.size 0 r _ r0 r1 (by exact cell_heap (HC.out rfl).1 rfl)).mono ?_
    rintro e w1 ⟨rfl, rfl⟩
    go_wp2_with fail
    refine (nsec_any (w.heap.size + 1) 0 s _ s0 s1 (by exact cell_heap (HC.out rfl).2 rfl)).mono ?_
    rintro e w1 ⟨rfl, rfl⟩
    by_cases hlt : r < s
    · have hl1 : decide (r < s) = true := by simp [hlt]
      go_wp2_with fail
      go_ret
      refine ⟨?_, ((Below.refl _ _).alloc (Nat.le_refl _) _).alloc (by simp) _⟩
      have hz := HZ.out
      rw [if_pos (by have h1 := HD.out; have h2 := HE.out; have h3 := HQ.out; omega)] at hz
      rw [← hz]; rfl
    · have hl1 : decide (r < s) = false := by simp; omega
      by_cases hgt : s < r
      · have hg1 : decide (s < r) = true := by simp [hgt]
        go_wp2_with fail
        go_ret
        refine ⟨?_, ((Below.refl _ _).alloc (Nat.le_refl _) _).alloc (by simp) _⟩
        have hz := HZ.out
        rw [if_neg (by have h1 := HD.out; have h2 := HE.out; have h3 := HQ.out; omega), if_pos (by have h1 := HD.out; have h2 := HE.out; have h3 := HQ.out; omega)] at hz
        rw [← hz]; rfl
      · have hg1 : decide (s < r) = false := by simp; omega
        go_wp2_with fail
        go_ret
        refine ⟨?_, ((Below.refl _ _).alloc (Nat.le_refl _) _).alloc (by simp) _⟩
        have hz := HZ.out
        rw [if_neg (by have h1 := HD.out; have h2 := HE.out; have h3 := HQ.out; omega), if_neg (by have h1 := HD.out; have h2 := HE.out; have h3 := HQ.out; omega)] at hz
        rw [← hz]; rfl
  · have hqb : (q == t) = false := by simp [hqt]
    by_cases hlt : q < t
    · have hl1 : decide (q < t) = true := by simp [hlt]
      go_wp2_with fail
      go_ret
      refine ⟨?_, ((Below.refl _ _).alloc (Nat.le_refl _) _).alloc (by simp) _⟩
      have hz := HZ.out
      rw [if_pos (by have h1 := HD.out; have h2 := HE.out; omega)] at hz
      rw [← hz]; rfl
    · have hl1 : decide (q < t) = false := by simp; omega
      by_cases hgt : t < q
      · have hg1 : decide (t < q) = true := by simp [hgt]
        go_wp2_with fail
        go_ret
        refine ⟨?_, ((Below.refl _ _).alloc (Nat.le_refl _) _).alloc (by simp) _⟩
        have hz := HZ.out
        rw [if_neg (by have h1 := HD.out; have h2 := HE.out; omega), if_pos (by have h1 := HD.out; have h2 := HE.out; omega)] at hz
        rw [← hz]; rfl
      · have hg1 : decide (t < q) = false := by simp; omega
        go_wp2_with fail
        go_ret
        refine ⟨?_, ((Below.refl _ _).alloc (Nat.le_refl _) _).alloc (by simp) _⟩
        have hz := HZ.out
        rw [if_neg (by have h1 := HD.out; have h2 := HE.out; omega), if_neg (by have h1 := HD.out; have h2 := HE.out; omega)] at hz
        rw [← hz]; rfl

set_option maxRecDepth 100000 in
theorem isNaN_any (a : Int) (w : World) : Calls Yba.prog 29 #[.int .u64 a] w fun x w' => x = .returned (.bool false) ∧ w' = w := by
  go_enter Yba.func29, Yba.ntmps29
  go_wp2_with fail
  go_ret
  exact ⟨rfl, rfl⟩
set_option maxRecDepth 100000 in
theorem cmp64_any (a b : Int) (w : World) : Calls Yba.prog 27 #[.int .u64 a, .int .u64 b] w fun x w' => x = .returned (.int .i64 (cmpZ a b)) ∧ w' = w := by
  obtain ⟨z, hz⟩ : ∃ z, cmpZ a b = z := ⟨_, rfl⟩
  rw [hz]
  unfold cmpZ at hz
  have HZ := Hid.mk hz
  clear hz
  go_enter Yba.func27, Yba.ntmps27
  go_wp2_with fail
  refine (isNaN_any a _).mono ?_
  rintro e w1 ⟨rfl, rfl⟩
  go_wp2_with fail
  refine (isNaN_any b _).mono ?_
  rintro e w1 ⟨rfl, rfl⟩
  by_cases hlt : a < b
  · have hl1 : decide (a < b) = true := by simp [hlt]
    go_wp2_with fail
    go_ret
    refine ⟨?_, rfl⟩
    have hz := HZ.out
    rw [if_pos (by omega)] at hz
    rw [← hz]; rfl
  · have hl1 : decide (a < b) = false := by simp; omega
    by_cases hgt : b < a
    · have hg1 : decide (b < a) = true := by simp [hgt]
      go_wp2_with fail
      go_ret
      refine ⟨?_, rfl⟩
      have hz := HZ.out
      rw [if_neg (by omega), if_pos (by omega)] at hz
      rw [← hz]; rfl
    · have hg1 : decide (b < a) = false := by simp; omega
      go_wp2_with fail
      go_ret
      refine ⟨?_, rfl⟩
      have hz := HZ.out
      rw [if_neg (by omega), if_neg (by omega)] at hz
      rw [← hz]; rfl

set_option maxRecDepth 100000 in
set_option maxHeartbeats 1000000 in
theorem or_any (g : Nat) (a b : Int) (w : World) (h0 : w.cell? ⟨g, 0, none⟩ = some (.int .i64 a)) (h1 : w.cell? ⟨g, 1, none⟩ = some (.int .i64 b)) : Calls Yba.prog 25 #[.slice (some ⟨g, 0, none⟩) 2 2] w fun x w' => x = .returned (.int .i64 (if a = 0 then b else a)) ∧ w' = w := by
  obtain ⟨z, hz⟩ : ∃ z, (if a = 0 then b else a) = z := ⟨_, rfl⟩
  rw [hz]
  have HZ := Hid.mk hz
  clear hz
  go_enter Yba.func25, Yba.ntmps25
  go_wp2_with fail
  go_loopw [5, 8] (fun _ i wr => ∃ m : Nat, m ≤ 2 ∧ i = .int .i64 (m : Int) ∧ (1 ≤ m → a = 0) ∧ (2 ≤ m → b = 0) ∧ wr = w) (fun _ i _ => 2 - (intOf i).toNat)
  case atStart => exact ⟨0, by omega, rfl, fun h => by omega, fun h => by omega, rfl⟩
  case round =>
    obtain ⟨m, hm, rfl, ha, hb, hw⟩ := hrel
    rw [hw]
    clear hw
    have HA := Hid.mk ha
    have HB := Hid.mk hb
    clear ha hb
    match m, hm with
    | 0, _ =>
      cases hab : (a == 0)
      · go_wp2_with fail
        go_ret
        refine ⟨?_, rfl⟩
        have hz := HZ.out
        rw [if_neg (by simpa using hab)] at hz
        rw [← hz]; rfl
      · go_wp2_with fail
        go_roundw
        case rel => exact ⟨1, by omega, by go_num, fun _ => by simpa using hab, fun h => by omega, by first | rfl | trivial⟩
        case measure => simp [intOf]
    | 1, _ =>
      have ha := HA.out (by omega)
      cases hab : (b == 0)
      · go_wp2_with fail
        go_ret
        refine ⟨?_, rfl⟩
        have hz := HZ.out
        rw [if_pos ha] at hz
        rw [← hz]; rfl
      · go_wp2_with fail
        go_roundw
        case rel => exact ⟨2, by omega, by go_num, fun _ => ha, fun _ => by simpa using hab, by first | rfl | trivial⟩
        case measure => simp [intOf]
    | 2, _ =>
      have ha := HA.out (by omega)
      have hb := HB.out (by omega)
      have hz := HZ.out
      rw [if_pos ha, hb] at hz
      clear ha hb
      have HZ2 := Hid.mk hz
      clear hz
      go_wp2_with fail
      go_ret
      refine ⟨?_, rfl⟩
      rw [← HZ2.out]; rfl
end Go.Proofs.Ybulkdzgm
