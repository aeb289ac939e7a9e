/-
  THE BUCKET, two ways: by the number's bits, and by halving till seven bits are left.
-/
import Derived.Test.YbulkdzhoKit
import Derived.Test.YbulkdzhoPick
import Derived.Test.YbulkdzhoLen
import Derived.BigQuiet
namespace Go.Proofs.Ybulkdzho
open Go Go.RowKit

/-- How often n is halved. -/
def ex (n : Nat) : Nat := Lib.bitLen n - 7
def buck (n : Nat) : Nat := ex n * 64 + n / 2 ^ ex n

theorem bitLen_zero : Lib.bitLen 0 = 0 := by decide
theorem bitLen_spec : ∀ (f n : Nat), n ≤ f → n < 2 ^ 64 → n < 2 ^ Lib.bitLen n ∧ (n ≠ 0 → 2 ^ (Lib.bitLen n - 1) ≤ n)
  | 0, n, h, _ => by
    obtain rfl : n = 0 := by omega
    rw [bitLen_zero]
    exact ⟨by decide, fun h => absurd rfl h⟩
  | f + 1, n, h, hn => by
    by_cases h0 : n = 0
    · subst h0
      rw [bitLen_zero]
      exact ⟨by decide, fun h => absurd rfl h⟩
    · obtain ⟨h1, h2⟩ := bitLen_spec f (n / 2) (by omega) (by omega)
      rw [Lib.bitLen_half n h0 hn]
      have e : 2 ^ (1 + Lib.bitLen (n / 2)) = 2 * 2 ^ Lib.bitLen (n / 2) := by rw [Nat.pow_add]
      refine ⟨by rw [e]; omega, fun _ => ?_⟩
      rw [Nat.add_sub_cancel_left]
      by_cases h3 : n / 2 = 0
      · rw [h3, bitLen_zero]; simp; omega
      · have h4 := h2 h3
        have hp : 0 < Lib.bitLen (n / 2) := by
          rcases Nat.eq_zero_or_pos (Lib.bitLen (n / 2)) with h5 | h5
          · rw [h5] at h1; simp at h1; omega
          · exact h5
        have e2 : 2 ^ Lib.bitLen (n / 2) = 2 * 2 ^ (Lib.bitLen (n / 2) - 1) := by
          rw [← Nat.pow_succ', Nat.succ_eq_add_one, Nat.sub_add_cancel hp]
        rw [e2]; omega

theorem ex_end (n : Nat) (hn : n < 9223372036854775808) : n / 2 ^ ex n < 128 := by
  obtain ⟨h1, _⟩ := bitLen_spec n n (Nat.le_refl _) (by omega)
  rw [Nat.div_lt_iff_lt_mul (Nat.two_pow_pos _)]
  have : 2 ^ Lib.bitLen n ≤ 128 * 2 ^ ex n := by
    rw [show (128 : Nat) = 2 ^ 7 from rfl, ← Nat.pow_add]
    exact Nat.pow_le_pow_right (by omega) (by unfold ex; omega)
  omega
theorem ex_more (n e : Nat) (hn : n < 9223372036854775808) (he : e < ex n) : 128 ≤ n / 2 ^ e := by
  have hx : e + 8 ≤ Lib.bitLen n := by unfold ex at he; omega
  have h0 : n ≠ 0 := fun h => by subst h; rw [bitLen_zero] at hx; omega
  obtain ⟨_, h2⟩ := bitLen_spec n n (Nat.le_refl _) (by omega)
  have h3 := h2 h0
  rw [Nat.le_div_iff_mul_le (Nat.two_pow_pos _)]
  have : 128 * 2 ^ e ≤ 2 ^ (Lib.bitLen n - 1) := by
    rw [show (128 : Nat) = 2 ^ 7 from rfl, ← Nat.pow_add]
    exact Nat.pow_le_pow_right (by omega) (by omega)
  omega
theorem ex_le (n : Nat) (hn : n < 9223372036854775808) : ex n ≤ 56 := by
  have hl := Lib.bitLen_le n 63 (by omega) hn
  unfold ex; omega
theorem buck_lt (n : Nat) (hn : n < 9223372036854775808) : buck n < 3712 := by
  have h1 := ex_end n hn
  have h2 := ex_le n hn
  unfold buck; omega

set_option maxHeartbeats 1000000 in
theorem bucket_any (n : Nat) (hn : n < 9223372036854775808) (w : World) :
    Calls Yba.prog 23 #[.int .i64 n] w fun e w' => e = .returned (.int .i64 (buck n : Nat)) ∧ w' = w := by
  have hl := Lib.bitLen_le n 63 (by omega) hn
  go_enter Yba.func23, Yba.ntmps23
  go_wp2_with fail
  refine (Yba.bits_Len64 n _ (by omega) (by omega)).mono ?_
  rintro e w1 ⟨rfl, h⟩
  subst w1
  rw [Int.toNat_natCast]
  obtain ⟨L, hL⟩ : ∃ L, Lib.bitLen n = L := ⟨_, rfl⟩
  rw [hL] at hl ⊢
  go_wp2_with fail
  go_ret
  have he : ex n = L - 7 := by unfold ex; rw [hL]
  have hm : max ((L : Int) - 1 - 6) 0 = ((ex n : Nat) : Int) := by rw [he]; omega
  have hb := buck_lt n hn
  refine ⟨?_, rfl⟩
  rw [hm, Int.toNat_natCast]
  have e : ((ex n : Nat) : Int) * 64 + (n : Int) / 2 ^ ex n = ((buck n : Nat) : Int) := by
    unfold buck
    rw [Int.natCast_add, Int.natCast_mul, Int.natCast_ediv, Int.natCast_pow]; rfl
  rw [e]
  have : wrap64 ((buck n : Nat) : Int) = ((buck n : Nat) : Int) := by unfold wrap64; omega
  rw [this]
  rfl

set_option maxHeartbeats 1000000 in
theorem zzbucket_any (n : Nat) (hn : n < 9223372036854775808) (w : World) :
    Calls Yba.prog 9 #[.int .i64 n] w fun e w' => e = .returned (.int .i64 (buck n : Nat)) ∧ w' = w := by
  go_enter Yba.func9, Yba.ntmps9
  go_wp2_with fail
  go_loopw [3] (fun i wr => ∃ k : Nat, k ≤ ex n ∧ i = .int .i64 (k : Int) ∧ w = wr) (fun i _ => ex n - (intOf i).toNat)
  case atStart => exact ⟨0, by omega, rfl, rfl⟩
  case round =>
    obtain ⟨k, hk, rfl, rfl⟩ := hrel
    have hx := ex_le n hn
    have h64 : decide ((k : Int) < 64) = true := by simp; omega
    obtain ⟨q, hq⟩ : ∃ q : Nat, n / 2 ^ k = q := ⟨_, rfl⟩
    have hqi : (n : Int) / 2 ^ k = (q : Int) := by rw [← hq, Int.natCast_ediv, Int.natCast_pow]; rfl
    by_cases hlt : k < ex n
    · have h1 := ex_more n k hn hlt
      rw [hq] at h1
      have hqd : decide ((128 : Int) ≤ (q : Int)) = true := by simp; omega
      have hq1 : ¬ ((q : Int) < 128) := by omega
      clear hq hk
      go_wp2_with fail
      go_roundw
      case rel => exact ⟨k + 1, by omega, by go_num, trivial⟩
      case measure => simp [intOf]; omega
    · obtain rfl : k = ex n := by omega
      have h1 := ex_end n hn
      rw [hq] at h1
      have hqd : decide ((128 : Int) ≤ (q : Int)) = false := by simp; omega
      have hq1 : (q : Int) < 128 := by omega
      have hbk : ((buck n : Nat) : Int) = (ex n : Int) * 64 + (q : Int) := by unfold buck; rw [hq]; omega
      clear hq hk
      go_wp2_with fail
      go_ret
      rw [hbk]
      exact ⟨rfl, rfl⟩
end Go.Proofs.Ybulkdzho
