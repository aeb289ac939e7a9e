/-
  PLAIN LAW of LawS6287C: the lowest set bit, and the tree of sums; no Go program in sight.
-/
namespace Go.Proofs.YbulkdzeiDoor.C

/-- The lowest set bit. -/
def low : Nat → Nat
  | 0 => 0
  | n + 1 => if (n + 1) % 2 = 1 then 1 else 2 * low ((n + 1) / 2)
theorem low_odd {n : Nat} (h : n % 2 = 1) : low n = 1 := by
  cases n with
  | zero => simp at h
  | succ n => rw [low, if_pos h]
theorem low_even {n : Nat} (h : n % 2 = 0) (h0 : 0 < n) : low n = 2 * low (n / 2) := by
  cases n with
  | zero => omega
  | succ n => rw [low, if_neg (by omega)]

theorem low_pos (n : Nat) (h : 0 < n) : 0 < low n ∧ low n ≤ n ∧ low n ∣ n := by
  induction n using Nat.strongRecOn with
  | ind n ih =>
    by_cases ho : n % 2 = 1
    · rw [low_odd ho]; exact ⟨by omega, by omega, ⟨n, by omega⟩⟩
    · rw [low_even (by omega) h]
      obtain ⟨a, b, c, hc⟩ := ih (n / 2) (by omega) (by omega)
      refine ⟨by omega, by omega, c, ?_⟩
      rw [Nat.mul_assoc, ← hc]
      omega

theorem low_pow (n : Nat) (h : 0 < n) : ∃ e, low n = 2 ^ e := by
  induction n using Nat.strongRecOn with
  | ind n ih =>
    by_cases ho : n % 2 = 1
    · exact ⟨0, low_odd ho⟩
    · obtain ⟨e, he⟩ := ih (n / 2) (by omega) (by omega)
      exact ⟨e + 1, by rw [low_even (by omega) h, he, Nat.pow_succ, Nat.mul_comm]⟩

/-- Whatever power of two divides it is no greater than its lowest set bit. -/
theorem pow_le_low (e n : Nat) (h : 0 < n) (hd : 2 ^ e ∣ n) : 2 ^ e ≤ low n := by
  induction e generalizing n with
  | zero => exact (low_pos n h).1
  | succ e ih =>
    obtain ⟨c, rfl⟩ := hd
    have hp : 2 ^ (e + 1) * c = 2 * (2 ^ e * c) := by rw [Nat.pow_succ, Nat.mul_comm (2 ^ e) 2, Nat.mul_assoc]
    rw [hp] at h ⊢
    rw [low_even (by omega) h, show 2 * (2 ^ e * c) / 2 = 2 ^ e * c by omega, Nat.pow_succ]
    have := ih (2 ^ e * c) (by omega) ⟨c, rfl⟩
    omega

/-- Behind a multiple of 2^e the lowest set bit goes no further back. -/
theorem low_add (e B r : Nat) (hd : 2 ^ e ∣ B) (h0 : 0 < r) (h1 : r < 2 ^ e) : low (B + r) ≤ r := by
  induction e generalizing B r with
  | zero => simp at h1; omega
  | succ e ih =>
    obtain ⟨c, rfl⟩ := hd
    have hp : 2 ^ (e + 1) * c = 2 * (2 ^ e * c) := by rw [Nat.pow_succ, Nat.mul_comm (2 ^ e) 2, Nat.mul_assoc]
    rw [hp]
    rw [Nat.pow_succ] at h1
    by_cases ho : r % 2 = 1
    · rw [low_odd (by omega)]; omega
    · rw [low_even (by omega) (by omega), show (2 * (2 ^ e * c) + r) / 2 = 2 ^ e * c + r / 2 by omega]
      have := ih (2 ^ e * c) (r / 2) ⟨c, rfl⟩ (by omega) (by omega)
      omega
theorem low_behind {m B r : Nat} (hm : 0 < m) (hd : low m ∣ B) (h0 : 0 < r) (h1 : r < low m) : low (B + r) ≤ r := by
  obtain ⟨e, he⟩ := low_pow m hm
  rw [he] at hd h1
  exact low_add e B r hd h0 h1
theorem low_up {k : Nat} (h : 0 < k) : 2 * low k ≤ low (k + low k) := by
  obtain ⟨e, he⟩ := low_pow k h
  obtain ⟨h1, h2, c, hc⟩ := low_pos k h
  have hodd : c % 2 = 1 := by
    by_cases ho : c % 2 = 1
    · exact ho
    · exfalso
      have h3 := pow_le_low (e + 1) k h ⟨c / 2, by
        rw [Nat.pow_succ, Nat.mul_assoc, show 2 * (c / 2) = c by omega, ← he]; exact hc⟩
      rw [he, Nat.pow_succ] at h3
      have := Nat.two_pow_pos e
      omega
  have h4 := pow_le_low (e + 1) (k + low k) (by omega) ⟨(c + 1) / 2, by
    rw [Nat.pow_succ, Nat.mul_assoc, show 2 * ((c + 1) / 2) = c + 1 by omega, ← he, Nat.mul_add, ← hc, Nat.mul_one]⟩
  rw [Nat.pow_succ] at h4
  rw [he] at h4 ⊢
  omega

/-- 'k & -k', on words. -/
theorem land_low (e k : Nat) (h0 : 0 < k) (h1 : k < 2 ^ e) : k &&& (2 ^ e - k) = low k := by
  induction e generalizing k with
  | zero => simp at h1; omega
  | succ e ih =>
    by_cases ho : k % 2 = 1
    · rw [low_odd ho]
      apply Nat.eq_of_testBit_eq
      intro i
      have h2 : 2 ^ (e + 1) - k = 2 ^ (e + 1) - ((k - 1) + 1) := by omega
      rw [Nat.testBit_and, h2, Nat.testBit_two_pow_sub_succ (by omega)]
      cases i with
      | zero =>
        have h3 : (k - 1) % 2 = 0 := by omega
        simp [Nat.testBit_zero, ho, h3]
      | succ i =>
        have h3 : (k - 1) / 2 = k / 2 := by omega
        rw [Nat.testBit_succ, Nat.testBit_succ, Nat.testBit_succ, h3]
        have h4 : (1 : Nat) / 2 = 0 := rfl
        rw [h4, Nat.zero_testBit]
        cases (k / 2).testBit i <;> simp
    · rw [low_even (by omega) h0]
      have h2 := ih (k / 2) (by omega) (by rw [Nat.pow_succ] at h1; omega)
      rw [← h2]
      have hk : k = 2 * (k / 2) := by omega
      have hp : 2 ^ (e + 1) - k = 2 * (2 ^ e - k / 2) := by rw [Nat.pow_succ]; omega
      rw [hp]
      generalize k / 2 = m at hk
      subst hk
      apply Nat.eq_of_testBit_eq
      intro i
      rw [Nat.testBit_and]
      cases i with
      | zero => simp [Nat.testBit_zero]
      | succ i =>
        rw [Nat.testBit_succ, Nat.testBit_succ, Nat.testBit_succ, Nat.mul_div_cancel_left _ (by omega), Nat.mul_div_cancel_left _ (by omega), Nat.mul_div_cancel_left _ (by omega), Nat.testBit_and]

/-! ### Sums -/
/-- The sum of f over [a, b). -/
def sm (f : Nat → Nat) (a : Nat) : Nat → Nat
  | 0 => 0
  | b + 1 => if a ≤ b then sm f a b + f b else 0
theorem sm_self (f : Nat → Nat) (a b : Nat) (h : b ≤ a) : sm f a b = 0 := by
  cases b with
  | zero => rfl
  | succ b => rw [sm, if_neg (by omega)]
theorem sm_succ (f : Nat → Nat) (a b : Nat) (h : a ≤ b) : sm f a (b + 1) = sm f a b + f b := by rw [sm, if_pos h]
theorem sm_add (f : Nat → Nat) (a b c : Nat) (h1 : a ≤ b) (h2 : b ≤ c) : sm f a c = sm f a b + sm f b c := by
  induction c with
  | zero => rw [sm_self f b 0 (by omega), sm_self f a 0 (by omega), sm_self f a b (by omega)]
  | succ c ih =>
    by_cases h : b = c + 1
    · subst h; rw [sm_self f (c + 1) (c + 1) (by omega)]; rfl
    · rw [sm_succ f a c (by omega), sm_succ f b c (by omega), ih (by omega)]; omega
theorem sm_congr {f g : Nat → Nat} {a b : Nat} (h : ∀ i, a ≤ i → i < b → f i = g i) : sm f a b = sm g a b := by
  induction b with
  | zero => rw [sm_self f a 0 (by omega), sm_self g a 0 (by omega)]
  | succ b ih =>
    by_cases hb : a ≤ b
    · rw [sm_succ f a b hb, sm_succ g a b hb, ih (fun i h1 h2 => h i h1 (by omega)), h b hb (by omega)]
    · rw [sm_self f a _ (by omega), sm_self g a _ (by omega)]
theorem sm_le {f : Nat → Nat} {M a b : Nat} (h : ∀ i, a ≤ i → i < b → f i ≤ M) : sm f a b ≤ M * (b - a) := by
  induction b with
  | zero => rw [sm_self f a 0 (by omega)]; omega
  | succ b ih =>
    by_cases hb : a ≤ b
    · have h1 := ih (fun i h1 h2 => h i h1 (by omega))
      have h2 := h b hb (by omega)
      rw [sm_succ f a b hb, show b + 1 - a = (b - a) + 1 by omega, Nat.mul_add]
      omega
    · rw [sm_self f a _ (by omega)]; omega
theorem sm_mono {f g : Nat → Nat} {a b : Nat} (h : ∀ i, a ≤ i → i < b → f i ≤ g i) : sm f a b ≤ sm g a b := by
  induction b with
  | zero => rw [sm_self f a 0 (by omega)]; omega
  | succ b ih =>
    by_cases hb : a ≤ b
    · rw [sm_succ f a b hb, sm_succ g a b hb]
      have := ih (fun i h1 h2 => h i h1 (by omega))
      have := h b hb (by omega)
      omega
    · rw [sm_self f a _ (by omega)]; omega
theorem sm_plus (f g : Nat → Nat) (a b : Nat) : sm (fun i => f i + g i) a b = sm f a b + sm g a b := by
  induction b with
  | zero => rw [sm_self _ a 0 (by omega), sm_self f a 0 (by omega), sm_self g a 0 (by omega)]
  | succ b ih =>
    by_cases hb : a ≤ b
    · rw [sm_succ _ a b hb, sm_succ f a b hb, sm_succ g a b hb, ih]; omega
    · rw [sm_self _ a _ (by omega), sm_self f a _ (by omega), sm_self g a _ (by omega)]
theorem sm_zero {f : Nat → Nat} {a b : Nat} (h : ∀ i, a ≤ i → i < b → f i = 0) : sm f a b = 0 := by
  have := sm_le (M := 0) (fun i h1 h2 => Nat.le_of_eq (h i h1 h2))
  omega
/-- f with one less at i. -/
def dec (f : Nat → Nat) (i : Nat) : Nat → Nat := fun j => if j = i then f j - 1 else f j
theorem sm_dec (f : Nat → Nat) (i a b : Nat) (hi : 0 < f i) : sm (dec f i) a b = sm f a b - (if a ≤ i ∧ i < b then 1 else 0) ∧ (a ≤ i ∧ i < b → 0 < sm f a b) := by
  induction b with
  | zero => rw [sm_self _ a 0 (by omega), sm_self f a 0 (by omega)]; simp
  | succ b ih =>
    by_cases hb : a ≤ b
    · rw [sm_succ _ a b hb, sm_succ f a b hb]
      obtain ⟨h1, h2⟩ := ih
      by_cases hbi : b = i
      · subst hbi
        rw [h1, if_neg (by omega), if_pos (by omega)]
        have : dec f b b = f b - 1 := by unfold dec; rw [if_pos rfl]
        rw [this]
        exact ⟨by omega, fun _ => by omega⟩
      · have : dec f i b = f b := by unfold dec; rw [if_neg hbi]
        rw [this, h1]
        by_cases hr : a ≤ i ∧ i < b
        · have := h2 hr
          rw [if_pos hr, if_pos (by omega)]
          exact ⟨by omega, fun _ => by omega⟩
        · rw [if_neg hr, if_neg (by omega)]
          exact ⟨by omega, fun h => by omega⟩
    · rw [sm_self _ a _ (by omega), sm_self f a _ (by omega), if_neg (by omega)]
      exact ⟨rfl, fun h => by omega⟩

/-- The tree: node k (from 1 on) sums the groups from k - low k to k - 1. -/
def node (L : Nat → Nat) (k : Nat) : Nat := sm L (k - low k) k
end Go.Proofs.YbulkdzeiDoor.C
