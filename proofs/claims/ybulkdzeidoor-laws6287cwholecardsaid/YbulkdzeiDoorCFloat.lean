/-
  PLAIN LAW of LawS6287C: small whole numbers as words of 64 bits; no Go program in sight.
-/
import GoSem.Core.Float
namespace Go.Proofs.YbulkdzeiDoor.C
open Go Ieee

/-- The word of a whole number. -/
def fi (n : Int) : Nat := Ieee.double.write (.number (n < 0) n.natAbs 0)
theorem fi_nearest (n : Int) : FloatKind.f64.nearest n = fi n := rfl

theorem log2_mul_pow {m : Nat} (h : 0 < m) (J : Nat) : (m * 2 ^ J).log2 = m.log2 + J := by
  have h1 : m * 2 ^ J ≠ 0 := by have := Nat.mul_pos h (Nat.two_pow_pos J); omega
  rw [Nat.log2_eq_iff h1]
  have h2 := Nat.log2_self_le (n := m) (by omega)
  have h3 := Nat.lt_log2_self (n := m)
  constructor
  · rw [Nat.pow_add]; exact Nat.mul_le_mul_right _ h2
  · rw [show m.log2 + J + 1 = (m.log2 + 1) + J by omega, Nat.pow_add]
    exact Nat.mul_lt_mul_of_pos_right h3 (Nat.two_pow_pos J)

theorem log2_52 {m : Nat} (h : 0 < m) (h1 : m < 2 ^ 53) : m.log2 ≤ 52 := by
  have := (Nat.log2_lt (n := m) (k := 53) (by omega)).2 h1
  omega

theorem cut_exact (neg : Bool) (n b : Nat) (h : 0 < n) : Toward.even.cut neg (n * 2 ^ b) b = n := by
  unfold Toward.cut
  have hl : (n * 2 ^ b).log2 = n.log2 + b := log2_mul_pow h b
  have hm : min b ((n * 2 ^ b).log2 + 2) = b := by rw [hl]; omega
  simp only [hm, Nat.one_shiftLeft, Nat.mul_mod_left, Nat.mul_div_cancel _ (Nat.two_pow_pos b)]
  simp

theorem bin : Ieee.double.binade = 4503599627370496 := by decide
theorem inr : Ieee.double.infRung = 9218868437227405312 := by decide
theorem sgw : Ieee.double.signWeight = 9223372036854775808 := by decide
theorem lpl : Ieee.double.leastPlace = -1074 := by decide
theorem frb : Ieee.double.fractionBits = 52 := rfl

theorem pow53 : (2 : Nat) ^ 53 = 9007199254740992 := by decide
theorem near_gen (neg : Bool) (m J k : Nat) (h : 0 < m) (hk : m.log2 = k) (hk2 : k ≤ 52) (hN : m * 2 ^ (52 - k) < 9007199254740992) :
    Ieee.double.nearest neg (m * 2 ^ J) (-(J : Int)) = Ieee.double.word neg ((k + 1022) * 4503599627370496 + m * 2 ^ (52 - k)) := by
  have hne : ¬ m * 2 ^ J = 0 := by have := Nat.mul_pos h (Nat.two_pow_pos J); omega
  have hl := log2_mul_pow h J
  rw [hk] at hl
  have e1 : max (-(J : Int) + ((k + J : Nat) : Int) - ((52 : Nat) : Int)) (-1074) = (k : Int) - 52 := by omega
  have e2 : (-(J : Int) - ((k : Int) - 52)).toNat = (52 - k) - J := by omega
  have e3 : ((k : Int) - 52 - -(J : Int)).toNat = J - (52 - k) := by omega
  have e4 : ((k : Int) - 52 - -1074).toNat = k + 1022 := by omega
  have e5 : m * 2 ^ J * 2 ^ (52 - k - J) = (m * 2 ^ (52 - k)) * 2 ^ (J - (52 - k)) := by
    rw [Nat.mul_assoc, Nat.mul_assoc, ← Nat.pow_add, ← Nat.pow_add]
    congr 2
    omega
  unfold Format.nearest
  rw [if_neg hne]
  simp only [hl, lpl, frb, bin, inr]
  rw [e1, e2, e3, e4, Nat.shiftLeft_eq, e5, cut_exact neg _ _ (Nat.mul_pos h (Nat.two_pow_pos _))]
  generalize m * 2 ^ (52 - k) = N at hN
  congr 1
  exact Nat.min_eq_left (by omega)

theorem near_val (neg : Bool) (m J : Nat) (h : 0 < m) (h1 : m < 9007199254740992) :
    Ieee.double.nearest neg (m * 2 ^ J) (-(J : Int)) = Ieee.double.word neg ((m.log2 + 1022) * 4503599627370496 + m * 2 ^ (52 - m.log2)) ∧ m.log2 ≤ 52 ∧ 4503599627370496 ≤ m * 2 ^ (52 - m.log2) ∧ m * 2 ^ (52 - m.log2) < 9007199254740992 := by
  have hk : m.log2 ≤ 52 := log2_52 h (by rw [pow53]; exact h1)
  have a1 := Nat.log2_self_le (n := m) (by omega)
  have a2 := Nat.lt_log2_self (n := m)
  have b1 : 4503599627370496 ≤ m * 2 ^ (52 - m.log2) := by
    calc 4503599627370496 = 2 ^ 52 := by decide
      _ = 2 ^ m.log2 * 2 ^ (52 - m.log2) := by rw [← Nat.pow_add]; congr 1; omega
      _ ≤ _ := Nat.mul_le_mul_right _ a1
  have b2 : m * 2 ^ (52 - m.log2) < 9007199254740992 := by
    calc m * 2 ^ (52 - m.log2) < 2 ^ (m.log2 + 1) * 2 ^ (52 - m.log2) := Nat.mul_lt_mul_of_pos_right a2 (Nat.two_pow_pos _)
      _ = 2 ^ 53 := by rw [← Nat.pow_add]; congr 1; omega
      _ = 9007199254740992 := by decide
  exact ⟨near_gen neg m J _ h rfl hk b2, hk, b1, b2⟩

theorem read_rung (neg : Bool) (r N R : Nat) (hr : R < 9218868437227405312) (hr1 : 4503599627370496 ≤ R) (e1 : 4503599627370496 + R % 4503599627370496 = N) (e2 : R / 4503599627370496 - 1 = r) :
    Ieee.double.read (Ieee.double.word neg R) = .number neg N (-1074 + (r : Int)) := by
  have hw : Ieee.double.word neg R / 9223372036854775808 % 2 = neg.toNat ∧ Ieee.double.word neg R % 9223372036854775808 = R := by
    unfold Format.word
    rw [sgw]
    cases neg
    · rw [if_neg (by simp)]; simp only [Bool.toNat_false]; omega
    · rw [if_pos rfl]; simp only [Bool.toNat_true]; omega
  have e4 : (neg.toNat == 1) = neg := by cases neg <;> rfl
  unfold Format.read
  rw [sgw, bin, inr, lpl]
  generalize Ieee.double.word neg R = X at hw
  obtain ⟨x1, x2⟩ := hw
  simp only [x1, x2]
  rw [if_neg (Nat.not_lt.2 hr1), if_pos hr, e1, e2, e4]

theorem read_word (neg : Bool) (k N : Nat) (hk : k ≤ 1000) (h1 : 4503599627370496 ≤ N) (h2 : N < 9007199254740992) :
    Ieee.double.read (Ieee.double.word neg ((k + 1022) * 4503599627370496 + N)) = .number neg N ((k : Int) - 52) := by
  have e3 : (-1074 : Int) + ((k + 1022 : Nat) : Int) = (k : Int) - 52 := by omega
  rw [← e3]
  exact read_rung neg (k + 1022) N _ (by omega) (by omega) (by omega) (by omega)

/-- A datum that is a whole number. -/
def W (d : Datum) (n : Int) : Prop := ∃ J : Nat, d = .number (decide (n < 0)) (n.natAbs * 2 ^ J) (-(J : Int))
/-- .. of which the sign of a zero is left open. -/
def W' (d : Datum) (n : Int) : Prop := ∃ (s : Bool) (J : Nat), d = .number s (n.natAbs * 2 ^ J) (-(J : Int)) ∧ (n < 0 → s = true) ∧ (0 < n → s = false)
theorem W.w' {d : Datum} {n : Int} (h : W d n) : W' d n := by
  obtain ⟨J, rfl⟩ := h
  exact ⟨_, J, rfl, fun h => by simp [h], fun h => by simp; omega⟩

theorem write_W {d : Datum} {n : Int} (h : W d n) (hn : n.natAbs < 9007199254740992) : Ieee.double.write d = fi n := by
  obtain ⟨J, rfl⟩ := h
  unfold fi Format.write
  simp only
  by_cases h0 : n.natAbs = 0
  · rw [h0, Nat.zero_mul]
    unfold Format.nearest
    rw [if_pos rfl, if_pos rfl]
  · have h1 := (near_val (decide (n < 0)) n.natAbs J (by omega) hn).1
    have h2 := (near_val (decide (n < 0)) n.natAbs 0 (by omega) hn).1
    rw [Nat.pow_zero, Nat.mul_one] at h2
    rw [h1]
    exact h2.symm

theorem read_zero : Ieee.double.read 0 = .number false 0 (-1074) := by decide
theorem fi_zero : fi 0 = 0 := by decide
theorem read_fi {n : Int} (hn : n.natAbs < 9007199254740992) : W (Ieee.double.read (fi n)) n := by
  by_cases h0 : n = 0
  · subst h0
    rw [fi_zero, read_zero]
    obtain ⟨J, hJ⟩ : ∃ J : Nat, J = 1074 := ⟨_, rfl⟩
    exact ⟨J, by rw [Int.natAbs_zero, Nat.zero_mul, hJ]; rfl⟩
  · have hp : 0 < n.natAbs := by omega
    obtain ⟨h2, hk, b1, b2⟩ := near_val (decide (n < 0)) n.natAbs 0 hp hn
    rw [Nat.pow_zero, Nat.mul_one] at h2
    have h3 : fi n = Ieee.double.word (decide (n < 0)) ((n.natAbs.log2 + 1022) * 4503599627370496 + n.natAbs * 2 ^ (52 - n.natAbs.log2)) := h2
    rw [h3, read_word _ _ _ (by omega) b1 b2]
    exact ⟨52 - n.natAbs.log2, by congr 1; omega⟩

theorem signed_W (s : Bool) (n : Int) (J u : Nat) (h1 : n < 0 → s = true) (h2 : 0 < n → s = false) : signed s (n.natAbs * 2 ^ J) u = n * 2 ^ (J + u) := by
  unfold signed
  have e : ((n.natAbs * 2 ^ J) <<< u : Nat) = n.natAbs * 2 ^ (J + u) := by rw [Nat.shiftLeft_eq, Nat.mul_assoc, ← Nat.pow_add]
  rw [e]
  rcases Int.lt_trichotomy n 0 with h | h | h
  · rw [h1 h]
    have : ((n.natAbs : Nat) : Int) = -n := by omega
    simp only [if_true, Int.natCast_mul, this, Int.natCast_pow]
    rw [Int.neg_mul, Int.neg_neg]; rfl
  · subst h; cases s <;> simp
  · rw [h2 h]
    have : ((n.natAbs : Nat) : Int) = n := by omega
    simp [Int.natCast_mul, this, Int.natCast_pow]

theorem min_neg (a b : Nat) : min (-(a : Int)) (-(b : Int)) = -((max a b : Nat) : Int) := by omega

theorem sum_W {d e : Datum} {n m : Int} (h : W d n) (k : W' e m) : ∃ f, d.sum e = some f ∧ W f (n + m) := by
  obtain ⟨J, rfl⟩ := h
  obtain ⟨t, I, rfl, ht1, ht2⟩ := k
  refine ⟨_, rfl, max J I, ?_⟩
  have a1 : (-(J : Int) - min (-(J : Int)) (-(I : Int))).toNat = max J I - J := by omega
  have a2 : (-(I : Int) - min (-(J : Int)) (-(I : Int))).toNat = max J I - I := by omega
  simp only [a1, a2]
  rw [min_neg]
  rw [signed_W _ n J _ (fun h => by simp [h]) (fun h => by simp; omega), signed_W t m I _ ht1 ht2]
  rw [show J + (max J I - J) = max J I by omega, show I + (max J I - I) = max J I by omega, ← Int.add_mul]
  have hp : (0 : Int) < 2 ^ max J I := by
    have := Nat.two_pow_pos (max J I)
    have h : ((2 ^ max J I : Nat) : Int) = (2 : Int) ^ max J I := by simp
    rw [← h]; omega
  congr 1
  · by_cases h0 : n + m = 0
    · rw [h0]
      simp
      intro hn
      exact ht2 (by omega)
    · have : (n + m) * 2 ^ max J I ≠ 0 := by
        intro hh
        rcases Int.mul_eq_zero.1 hh with h | h
        · exact h0 h
        · omega
      rw [if_neg this, decide_eq_decide]
      constructor
      · intro hh
        by_cases h : n + m < 0
        · exact h
        · have := Int.mul_nonneg (show 0 ≤ n + m by omega) (Int.le_of_lt hp); omega
      · intro hh
        exact Int.mul_neg_of_neg_of_pos hh hp
  · rw [Int.natAbs_mul, Int.natAbs_pow]; rfl

theorem opposite_W {e : Datum} {m : Int} (k : W e m) : W' e.opposite (-m) := by
  obtain ⟨J, rfl⟩ := k
  refine ⟨_, J, by unfold Datum.opposite; rw [Int.natAbs_neg], fun h => by simp; omega, fun h => by simp; omega⟩

theorem order_W {d e : Datum} {n m : Int} (h : W d n) (k : W e m) : d.order e = some (compare n m) := by
  obtain ⟨J, rfl⟩ := h
  obtain ⟨I, rfl⟩ := k
  unfold Datum.order
  have a1 : (-(J : Int) - min (-(J : Int)) (-(I : Int))).toNat = max J I - J := by omega
  have a2 : (-(I : Int) - min (-(J : Int)) (-(I : Int))).toNat = max J I - I := by omega
  simp only [a1, a2]
  rw [signed_W _ n J _ (fun h => by simp [h]) (fun h => by simp; omega), signed_W _ m I _ (fun h => by simp [h]) (fun h => by simp; omega)]
  rw [show J + (max J I - J) = max J I by omega, show I + (max J I - I) = max J I by omega]
  have hp : (0 : Int) < 2 ^ max J I := by
    have := Nat.two_pow_pos (max J I)
    have h : ((2 ^ max J I : Nat) : Int) = (2 : Int) ^ max J I := by simp
    rw [← h]; omega
  generalize (2 : Int) ^ max J I = P at hp
  congr 1
  rcases Int.lt_trichotomy n m with h | h | h
  · rw [Int.compare_eq_lt.2 h, Int.compare_eq_lt]
    exact Int.mul_lt_mul_of_pos_right h hp
  · subst h
    rw [Int.compare_eq_eq.2 rfl, Int.compare_eq_eq.2 rfl]
  · rw [Int.compare_eq_gt.2 h, Int.compare_eq_gt]
    exact Int.mul_lt_mul_of_pos_right h hp

theorem product_W {d e : Datum} {n m : Int} (h : W d n) (k : W e m) (hn : 0 ≤ n) (hm : 0 ≤ m) : ∃ f, d.product e = some f ∧ W f (n * m) := by
  obtain ⟨J, rfl⟩ := h
  obtain ⟨I, rfl⟩ := k
  refine ⟨_, rfl, J + I, ?_⟩
  have hnm := Int.mul_nonneg hn hm
  rw [decide_eq_false (by omega), decide_eq_false (by omega), decide_eq_false (by omega)]
  congr 1
  · rw [Int.natAbs_mul, Nat.pow_add]
    simp only [Nat.mul_left_comm, Nat.mul_assoc]
  · omega

/-! ### On words -/
theorem fi_add {n m : Int} (hn : n.natAbs < 9007199254740992) (hm : m.natAbs < 9007199254740992) (h : (n + m).natAbs < 9007199254740992) : FloatKind.f64.format.add (fi n) (fi m) = some (fi (n + m)) := by
  obtain ⟨f, h1, h2⟩ := sum_W (read_fi hn) (read_fi hm).w'
  show ((Ieee.double.read (fi n)).sum (Ieee.double.read (fi m))).map Ieee.double.write = _
  rw [h1, Option.map_some, write_W h2 h]
theorem fi_sub {n m : Int} (hn : n.natAbs < 9007199254740992) (hm : m.natAbs < 9007199254740992) (h : (n - m).natAbs < 9007199254740992) : FloatKind.f64.format.sub (fi n) (fi m) = some (fi (n - m)) := by
  obtain ⟨f, h1, h2⟩ := sum_W (read_fi hn) (opposite_W (read_fi hm))
  show ((Ieee.double.read (fi n)).sum (Ieee.double.read (fi m)).opposite).map Ieee.double.write = _
  rw [h1, Option.map_some, write_W h2 (by omega)]; rfl
theorem fi_mul {n m : Int} (hn : n.natAbs < 9007199254740992) (hm : m.natAbs < 9007199254740992) (h : (n * m).natAbs < 9007199254740992) (h0 : 0 ≤ n) (h1 : 0 ≤ m) : FloatKind.f64.format.mul (fi n) (fi m) = some (fi (n * m)) := by
  obtain ⟨f, h2, h3⟩ := product_W (read_fi hn) (read_fi hm) h0 h1
  show ((Ieee.double.read (fi n)).product (Ieee.double.read (fi m))).map Ieee.double.write = _
  rw [h2, Option.map_some, write_W h3 h]
theorem fi_ord {n m : Int} (hn : n.natAbs < 9007199254740992) (hm : m.natAbs < 9007199254740992) : FloatKind.f64.format.order (fi n) (fi m) = some (compare n m) := order_W (read_fi hn) (read_fi hm)

/-! ### A quotient by k / 4, made whole -/
theorem cut_even_le (n d : Nat) (h : n / 2 ^ d ≠ 0) : n / 2 ^ d ≤ Toward.even.cut false n d ∧ Toward.even.cut false n d ≤ n / 2 ^ d + 1 := by
  have hd : d ≤ n.log2 := by
    have h0 : n ≠ 0 := fun e => by rw [e] at h; simp at h
    rw [Nat.le_log2 h0]
    have := Nat.div_pos_iff.1 (Nat.pos_of_ne_zero h)
    exact this.2
  unfold Toward.cut
  rw [show min d (n.log2 + 2) = d by omega]
  simp only [Nat.one_shiftLeft]
  generalize (2 ^ d < 2 * (n % 2 ^ d) || 2 ^ d == 2 * (n % 2 ^ d) && n / 2 ^ d % 2 == 1) = b
  cases b <;> simp

theorem cut_down (n d : Nat) : Toward.down.cut false n d = n / 2 ^ d := by
  unfold Toward.cut
  simp only [Nat.one_shiftLeft, Bool.false_and, Bool.toNat_false, Nat.add_zero]
  by_cases h : d ≤ n.log2 + 2
  · rw [Nat.min_eq_left h]
  · rw [Nat.min_eq_right (by omega)]
    have h1 := Nat.lt_log2_self (n := n)
    have h2 : n < 2 ^ (n.log2 + 2) := Nat.lt_of_lt_of_le h1 (Nat.pow_le_pow_right (by omega) (by omega))
    have h3 : n < 2 ^ d := Nat.lt_of_lt_of_le h1 (Nat.pow_le_pow_right (by omega) (by omega))
    rw [Nat.div_eq_of_lt h2, Nat.div_eq_of_lt h3]

/-- What is written of M·2^-e (M of 55 or 56 digits) and then made whole: one of the two neighbours' quotients. -/
theorem whole_of (M e : Nat) (h1 : 18014398509481984 ≤ M) (h2 : M < 72057594037927936) (he : 20 ≤ e) (he2 : e ≤ 900) : ∃ K d : Nat, d ≤ 3 ∧ M / 2 ^ d ≤ K ∧ K ≤ M / 2 ^ d + 1 ∧ 2 ≤ d ∧
    (∃ s m i, Ieee.double.read (Ieee.double.write (.number false M (-(e : Int)))) = .number s m i) ∧
    (Ieee.double.read (Ieee.double.write (.number false M (-(e : Int))))).integral .down = .number false (K / 2 ^ (e - d)) 0 := by
  have hM : M ≠ 0 := by omega
  obtain ⟨l, hl⟩ : ∃ l, M.log2 = l := ⟨_, rfl⟩
  have hl2 : l = 54 ∨ l = 55 := by
    have a1 : 54 ≤ M.log2 := (Nat.le_log2 hM).2 (by rw [show (2 : Nat) ^ 54 = 18014398509481984 by decide]; exact h1)
    have a2 : M.log2 < 56 := (Nat.log2_lt hM).2 (by rw [show (2 : Nat) ^ 56 = 72057594037927936 by decide]; exact h2)
    omega
  have hq : 4503599627370496 ≤ M / 2 ^ (l - 52) ∧ M / 2 ^ (l - 52) < 9007199254740992 := by
    have b1 := (Nat.log2_eq_iff hM).1 hl
    rcases hl2 with rfl | rfl
    · simp only [Nat.reduceSub, Nat.reducePow, Nat.reduceAdd] at b1 ⊢; omega
    · simp only [Nat.reduceSub, Nat.reducePow, Nat.reduceAdd] at b1 ⊢; omega
  obtain ⟨c1, c2⟩ := cut_even_le M (l - 52) (by omega)
  refine ⟨Toward.even.cut false M (l - 52), l - 52, by omega, c1, c2, by omega, ?_⟩
  generalize hK : Toward.even.cut false M (l - 52) = K at c1 c2
  have hw : Ieee.double.write (.number false M (-(e : Int))) = Ieee.double.word false ((l - 52 + 1074 - e) * 4503599627370496 + K) := by
    unfold Format.write
    simp only
    unfold Format.nearest
    rw [if_neg hM]
    simp only [hl, lpl, frb, bin, inr]
    have e1 : max (-(e : Int) + (l : Int) - ((52 : Nat) : Int)) (-1074) = -(e : Int) + (l : Int) - 52 := by omega
    have e2 : (-(e : Int) - (-(e : Int) + (l : Int) - 52)).toNat = 0 := by omega
    have e3 : (-(e : Int) + (l : Int) - 52 - -(e : Int)).toNat = l - 52 := by omega
    have e4 : (-(e : Int) + (l : Int) - 52 - -1074).toNat = l - 52 + 1074 - e := by omega
    rw [e1, e2, e3, e4, Nat.shiftLeft_zero, hK]
    congr 1
    exact Nat.min_eq_left (by omega)
  rw [hw]
  have hfin : ∀ (m' j : Nat), j ≤ 900 → (Datum.number false m' (-(j : Int))).integral .down = .number false (m' / 2 ^ j) 0 := fun m' j _ => by
    unfold Datum.integral
    dsimp only
    have g1 : (-(j : Int)).toNat = 0 := by omega
    have g2 : (- -(j : Int)).toNat = j := by omega
    rw [g1, g2, Nat.shiftLeft_zero, cut_down]
  by_cases hc : K < 9007199254740992
  · rw [read_rung false (l - 52 + 1074 - e) K _ (by omega) (by omega) (by omega) (by omega)]
    have g : (-1074 : Int) + ((l - 52 + 1074 - e : Nat) : Int) = -((e - (l - 52) : Nat) : Int) := by omega
    rw [g]
    exact ⟨⟨_, _, _, rfl⟩, hfin _ _ (by omega)⟩
  · obtain rfl : K = 9007199254740992 := by omega
    rw [read_rung false (l - 52 + 1074 - e + 1) 4503599627370496 _ (by omega) (by omega) (by omega) (by omega)]
    have g : (-1074 : Int) + ((l - 52 + 1074 - e + 1 : Nat) : Int) = -((e - (l - 52) - 1 : Nat) : Int) := by omega
    rw [g]
    refine ⟨⟨_, _, _, rfl⟩, ?_⟩
    rw [hfin _ _ (by omega)]
    congr 1
    have g2 : e - (l - 52) = (e - (l - 52) - 1) + 1 := by omega
    rw [g2, Nat.pow_succ, Nat.add_sub_cancel, Nat.mul_comm, ← Nat.div_div_eq_div_mul]

/-- The floor of x / (k / 4), A being the word of k / 4. -/
theorem floor_quot (x k A : Nat) (hx : 0 < x) (hx2 : x < 1048576) (hk : 0 < k) (hk2 : k ≤ 16) (hA : Ieee.double.read A = .number false (k * 2 ^ (52 - k.log2)) ((k.log2 : Int) - 54)) :
    ∃ q, FloatKind.f64.format.div (fi x) A = some q ∧ (∃ s m i, FloatKind.f64.decode q = .number s m i) ∧ FloatKind.f64.encode ((FloatKind.f64.decode q).integral .down) = fi ((4 * x / k : Nat) : Int) := by
  obtain ⟨hnear, hlx, bx1, bx2⟩ := near_val false x 0 hx (by omega)
  obtain ⟨-, hlk, bk1, bk2⟩ := near_val false k 0 hk (by omega)
  have hxl : x.log2 < 20 := (Nat.log2_lt (by omega)).2 (by rw [show (2 : Nat) ^ 20 = 1048576 by decide]; exact hx2)
  have hkl : k.log2 < 5 := (Nat.log2_lt (by omega)).2 (by rw [show (2 : Nat) ^ 5 = 32 by decide]; omega)
  have hR : Ieee.double.read (fi x) = .number false (x * 2 ^ (52 - x.log2)) ((x.log2 : Int) - 52) := by
    rw [Nat.pow_zero, Nat.mul_one] at hnear
    have h3 : fi x = Ieee.double.word false ((x.log2 + 1022) * 4503599627370496 + x * 2 ^ (52 - x.log2)) := by
      unfold fi Format.write
      rw [show decide ((x : Int) < 0) = false by simp, Int.natAbs_natCast]
      exact hnear
    rw [h3, read_word _ _ _ (by omega) bx1 bx2]
  obtain ⟨a, ha⟩ : ∃ a, 52 - x.log2 = a := ⟨_, rfl⟩
  obtain ⟨b, hb⟩ : ∃ b, 52 - k.log2 = b := ⟨_, rfl⟩
  rw [ha] at bx1 bx2 hR
  rw [hb] at bk1 bk2 hA
  have lm : (x * 2 ^ a).log2 = 52 := by
    rw [log2_mul_pow hx]; omega
  have ln : (k * 2 ^ b).log2 = 52 := by
    rw [log2_mul_pow hk]; omega
  have hn0 : ¬ k * 2 ^ b = 0 := by omega
  obtain ⟨m, hm⟩ : ∃ m, x * 2 ^ a = m := ⟨_, rfl⟩
  obtain ⟨n, hn⟩ : ∃ n, k * 2 ^ b = n := ⟨_, rfl⟩
  rw [hm] at bx1 bx2 hR lm
  rw [hn] at bk1 bk2 hA ln hn0
  have p54 : (2 : Nat) ^ 54 = 18014398509481984 := by decide
  obtain ⟨D, hD⟩ : ∃ D, m * 18014398509481984 / n = D := ⟨_, rfl⟩
  obtain ⟨st, hst⟩ : ∃ st : Nat, (m * 18014398509481984 % n != 0).toNat = st := ⟨_, rfl⟩
  have hst1 : st ≤ 1 := by rw [← hst]; cases (m * 18014398509481984 % n != 0) <;> simp
  have D1 : D * n ≤ m * 18014398509481984 := by rw [← hD]; exact Nat.div_mul_le_self _ _
  have hDl : 9007199254740992 ≤ D := by
    rw [← hD, Nat.le_div_iff_mul_le (by omega)]
    omega
  have hDu : D < 36028797018963968 := by
    rw [← hD, Nat.div_lt_iff_lt_mul (by omega)]
    omega
  have hquot : FloatKind.f64.format.div (fi x) A = some (Ieee.double.write (.number false (2 * D + st) (-((53 + a - b : Nat) : Int)))) := by
    show ((Ieee.double.read (fi x)).quotient (Ieee.double.fractionBits + 2) (Ieee.double.read A)).map Ieee.double.write = _
    rw [hR, hA]
    unfold Datum.quotient
    dsimp only
    rw [if_neg hn0]
    simp only [lm, ln, frb, Nat.shiftLeft_eq]
    rw [show 52 + 2 + 52 - 52 = 54 from rfl, p54, hD, hst]
    simp only [Option.map_some, Bool.xor_false]
    have e : (x.log2 : Int) - 52 - ((k.log2 : Int) - 54) - ((54 : Nat) : Int) - 1 = -((53 + a - b : Nat) : Int) := by omega
    rw [e]
  refine ⟨_, hquot, ?_⟩
  obtain ⟨K, d, hd3, hK1, hK2, hd2, ⟨s, mm, ii, hrd⟩, hfl⟩ := whole_of (2 * D + st) (53 + a - b) (by omega) (by omega) (by omega) (by omega)
  refine ⟨⟨s, mm, ii, hrd⟩, ?_⟩
  show Ieee.double.write (Datum.integral .down (Ieee.double.read _)) = _
  rw [hfl]
  obtain ⟨e, he⟩ : ∃ e, 53 + a - b = e := ⟨_, rfl⟩
  rw [he]
  obtain ⟨C, hC⟩ : ∃ C, 4 * x / k = C := ⟨_, rfl⟩
  have C1 : C * k ≤ 4 * x := by rw [← hC]; exact Nat.div_mul_le_self _ _
  have C2 : 4 * x < (C + 1) * k := by
    have := Nat.lt_mul_div_succ (4 * x) hk
    rw [hC] at this
    rw [Nat.mul_comm (C + 1) k]
    exact this
  have hpe : 2 ^ e * 2 ^ b = 2 ^ 53 * 2 ^ a := by rw [← Nat.pow_add, ← Nat.pow_add]; congr 1; omega
  -- both sides times n
  have low : C * 2 ^ (e - 1) ≤ D := by
    rw [← hD, Nat.le_div_iff_mul_le (by omega), ← hn, ← hm]
    have h2 : 2 ^ (e - 1) * 2 ^ b = 2 ^ 52 * 2 ^ a := by rw [← Nat.pow_add, ← Nat.pow_add]; congr 1; omega
    calc C * 2 ^ (e - 1) * (k * 2 ^ b) = C * k * (2 ^ (e - 1) * 2 ^ b) := by simp only [Nat.mul_left_comm, Nat.mul_assoc]
      _ = C * k * (2 ^ 52 * 2 ^ a) := by rw [h2]
      _ ≤ 4 * x * (2 ^ 52 * 2 ^ a) := Nat.mul_le_mul_right _ C1
      _ = x * 2 ^ a * (4 * 2 ^ 52) := by simp only [Nat.mul_left_comm, Nat.mul_assoc, Nat.mul_comm]
      _ = x * 2 ^ a * 18014398509481984 := by rw [show 4 * 2 ^ 52 = 18014398509481984 by decide]
  have up : 2 * D + 9 < (C + 1) * 2 ^ e := by
    have h3 : (2 * D + 9) * n < (C + 1) * 2 ^ e * n := by
      have h4 : (4 * x + 1) * (2 ^ 53 * 2 ^ a) ≤ (C + 1) * 2 ^ e * n := by
        rw [← hn]
        calc (4 * x + 1) * (2 ^ 53 * 2 ^ a) ≤ (C + 1) * k * (2 ^ 53 * 2 ^ a) := Nat.mul_le_mul_right _ C2
          _ = (C + 1) * k * (2 ^ e * 2 ^ b) := by rw [hpe]
          _ = (C + 1) * 2 ^ e * (k * 2 ^ b) := by simp only [Nat.mul_left_comm, Nat.mul_assoc]
      have h5 : (4 * x + 1) * (2 ^ 53 * 2 ^ a) = 2 * (m * 18014398509481984) + 9007199254740992 * 2 ^ a := by
        rw [← hm, pow53, Nat.add_mul, Nat.one_mul]
        congr 1
        rw [show (18014398509481984 : Nat) = 2 * 9007199254740992 from rfl, show (4 : Nat) = 2 * 2 from rfl]
        simp only [Nat.mul_left_comm, Nat.mul_assoc, Nat.mul_comm]
      have h6 : 16 ≤ 2 ^ a := by
        calc 16 = 2 ^ 4 := by decide
          _ ≤ 2 ^ a := Nat.pow_le_pow_right (by omega) (by omega)
      rw [h5] at h4
      have h7 : (2 * D + 9) * n = 2 * (D * n) + 9 * n := by rw [Nat.add_mul, Nat.mul_assoc]
      rw [h7]
      omega
    exact Nat.lt_of_mul_lt_mul_right h3
  have he1 : e = (e - 1) + 1 := by omega
  have key : K / 2 ^ (e - d) = C := by
    have hed : 2 ^ e = 2 ^ (e - d) * 2 ^ d := by rw [← Nat.pow_add]; congr 1; omega
    have hpd := Nat.two_pow_pos d
    have hd8 : 2 ^ d ≤ 8 := by
      calc 2 ^ d ≤ 2 ^ 3 := Nat.pow_le_pow_right (by omega) hd3
        _ = 8 := by decide
    have h21 : 2 * (C * 2 ^ (e - 1)) = C * 2 ^ e := by rw [he1, Nat.pow_succ, Nat.add_sub_cancel]; simp only [Nat.mul_left_comm, Nat.mul_comm]
    rw [hed] at h21 up
    have lo : C * 2 ^ (e - d) ≤ K := by
      refine Nat.le_trans ?_ hK1
      rw [Nat.le_div_iff_mul_le hpd, Nat.mul_assoc]
      omega
    have hi : K < (C + 1) * 2 ^ (e - d) := by
      have h8 : K * 2 ^ d ≤ (2 * D + st) + 2 ^ d := by
        calc K * 2 ^ d ≤ ((2 * D + st) / 2 ^ d + 1) * 2 ^ d := Nat.mul_le_mul_right _ hK2
          _ = (2 * D + st) / 2 ^ d * 2 ^ d + 2 ^ d := by rw [Nat.add_mul, Nat.one_mul]
          _ ≤ _ := Nat.add_le_add_right (Nat.div_mul_le_self _ _) _
      have h9 : K * 2 ^ d < (C + 1) * 2 ^ (e - d) * 2 ^ d := by
        rw [Nat.mul_assoc]
        omega
      exact Nat.lt_of_mul_lt_mul_right h9
    exact Nat.div_eq_of_lt_le lo hi
  rw [key]
  have hCx : C ≤ 4 * x := by rw [← hC]; exact Nat.div_le_self _ _
  rw [hC]
  exact write_W ⟨0, by simp⟩ (by simp; omega)

theorem div_zero (k A : Nat) (hk : 0 < k) (hA : Ieee.double.read A = .number false (k * 2 ^ (52 - k.log2)) ((k.log2 : Int) - 54)) : FloatKind.f64.format.div 0 A = some 0 := by
  have hn0 : ¬ k * 2 ^ (52 - k.log2) = 0 := by have := Nat.mul_pos hk (Nat.two_pow_pos (52 - k.log2)); omega
  show ((Ieee.double.read 0).quotient (Ieee.double.fractionBits + 2) (Ieee.double.read A)).map Ieee.double.write = _
  rw [hA, read_zero]
  unfold Datum.quotient
  dsimp only
  rw [if_neg hn0, Nat.zero_shiftLeft, Nat.zero_div, Nat.zero_mod]
  simp only [Option.map_some]
  unfold Format.write
  dsimp only
  unfold Format.nearest
  rw [if_pos (by simp)]
  rfl
theorem floor_zero : FloatKind.f64.encode ((FloatKind.f64.decode 0).integral .down) = 0 := by decide

/-- The word of k / 4. -/
def q4 (k : Nat) : Nat := (FloatKind.f64.format.div (fi k) (fi 4)).getD 0
theorem fi_four : fi 4 = 4616189618054758400 := by decide
theorem fi_one : fi 1 = 4607182418800017408 := by decide
theorem q4_div (k : Nat) (h0 : 0 < k) (h1 : k ≤ 16) : FloatKind.f64.format.div (fi k) 4616189618054758400 = some (q4 k) ∧ Ieee.double.read (q4 k) = .number false (k * 2 ^ (52 - k.log2)) ((k.log2 : Int) - 54) := by
  have : ∀ k : Fin 17, k.val = 0 ∨ (FloatKind.f64.format.div (fi k.val) 4616189618054758400 = some (q4 k.val) ∧ Ieee.double.read (q4 k.val) = .number false (k.val * 2 ^ (52 - k.val.log2)) ((k.val.log2 : Int) - 54)) := by decide +kernel
  rcases this ⟨k, by omega⟩ with h | h
  · simp only at h; omega
  · exact h
end Go.Proofs.YbulkdzeiDoor.C
