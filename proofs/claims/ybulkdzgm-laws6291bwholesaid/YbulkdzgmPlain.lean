/-
  THE HEAP, PLAIN: positions to items; what a sift up and a sift down keep and bring about. No Go in sight.
-/
import Derived.Test.YbulkdzgmQueue
namespace Go.Proofs.Ybulkdzgm
open Go

theorem bef_iff {X : Nat → Item} {a b : Nat} : bef X a b = true ↔ ((X a).due < (X b).due ∨ ((X a).due = (X b).due ∧ a < b)) := by unfold bef; simp
theorem bef_false {X : Nat → Item} {a b : Nat} : bef X a b = false ↔ ((X b).due < (X a).due ∨ ((X a).due = (X b).due ∧ b ≤ a)) := by
  unfold bef; rw [decide_eq_false_iff_not]; omega

def par (k : Nat) : Nat := (k - 1) / 2
def swp (f : Nat → Nat) (i j k : Nat) : Nat := if k = i then f j else if k = j then f i else f k

/-- The same items, each at one place as before. -/
structure Perm (m : Nat) (f f' : Nat → Nat) : Prop where
  fwd : ∀ k, k < m → ∃ k', k' < m ∧ f' k' = f k
  back : ∀ k, k < m → ∃ k', k' < m ∧ f k' = f' k
  inj : (∀ a b, a < m → b < m → f a = f b → a = b) → ∀ a b, a < m → b < m → f' a = f' b → a = b
theorem Perm.refl (m : Nat) (f : Nat → Nat) : Perm m f f := ⟨fun k hk => ⟨k, hk, rfl⟩, fun k hk => ⟨k, hk, rfl⟩, fun h => h⟩
theorem Perm.trans {m : Nat} {f g h : Nat → Nat} (a : Perm m f g) (b : Perm m g h) : Perm m f h :=
  ⟨fun k hk => by obtain ⟨k1, h1, e1⟩ := a.fwd k hk; obtain ⟨k2, h2, e2⟩ := b.fwd k1 h1; exact ⟨k2, h2, by rw [e2, e1]⟩,
   fun k hk => by obtain ⟨k1, h1, e1⟩ := b.back k hk; obtain ⟨k2, h2, e2⟩ := a.back k1 h1; exact ⟨k2, h2, by rw [e2, e1]⟩,
   fun hi => b.inj (a.inj hi)⟩
theorem Perm.swap {m : Nat} (f : Nat → Nat) {i j : Nat} (hi : i < m) (hj : j < m) : Perm m f (swp f i j) := by
  refine ⟨fun k hk => ?_, fun k hk => ?_, fun h a b ha hb e => ?_⟩
  · by_cases h1 : k = i
    · exact ⟨j, hj, by unfold swp; split <;> simp_all⟩
    · by_cases h2 : k = j
      · exact ⟨i, hi, by unfold swp; rw [if_pos rfl, h2]⟩
      · exact ⟨k, hk, by unfold swp; rw [if_neg h1, if_neg h2]⟩
  · unfold swp
    split
    · exact ⟨j, hj, rfl⟩
    · split
      · exact ⟨i, hi, rfl⟩
      · exact ⟨k, hk, rfl⟩
  · by_cases hij : j = i
    · subst hij
      have hs : ∀ k, swp f j j k = f k := fun k => by
        unfold swp
        by_cases hk : k = j
        · rw [if_pos hk, hk]
        · rw [if_neg hk, if_neg hk]
      rw [hs, hs] at e
      exact h a b ha hb e
    · unfold swp at e
      by_cases a1 : a = i
      · subst a1
        rw [if_pos rfl] at e
        by_cases b1 : b = a
        · exact b1.symm
        · rw [if_neg b1] at e
          by_cases b2 : b = j
          · subst b2
            rw [if_pos rfl] at e
            exact absurd (h _ _ hj hi e) hij
          · rw [if_neg b2] at e
            exact absurd (h _ _ hj hb e).symm b2
      · rw [if_neg a1] at e
        by_cases a2 : a = j
        · subst a2
          rw [if_pos rfl] at e
          by_cases b1 : b = i
          · subst b1
            rw [if_pos rfl] at e
            exact absurd (h _ _ hi hj e).symm hij
          · rw [if_neg b1] at e
            by_cases b2 : b = a
            · exact b2.symm
            · rw [if_neg b2] at e
              exact absurd (h _ _ hi hb e).symm b1
        · rw [if_neg a2] at e
          by_cases b1 : b = i
          · subst b1
            rw [if_pos rfl] at e
            exact absurd (h _ _ ha hj e) a2
          · rw [if_neg b1] at e
            by_cases b2 : b = j
            · subst b2
              rw [if_pos rfl] at e
              exact absurd (h _ _ ha hi e) a1
            · rw [if_neg b2] at e
              exact h _ _ ha hb e

def Heap (X : Nat → Item) (f : Nat → Nat) (n : Nat) : Prop := ∀ k, 0 < k → k < n → bef X (f k) (f (par k)) = false

/-- All is in order but for place j and its parent. -/
structure UpOK (X : Nat → Item) (f : Nat → Nat) (n j : Nat) : Prop where
  ord : ∀ k, 0 < k → k < n → k ≠ j → bef X (f k) (f (par k)) = false
  grand : ∀ k, 0 < k → k < n → par k = j → 0 < j → bef X (f k) (f (par j)) = false
theorem UpOK.done {X : Nat → Item} {f : Nat → Nat} {n j : Nat} (h : UpOK X f n j) (hj : j = 0 ∨ bef X (f j) (f (par j)) = false) : Heap X f n := fun k h0 hk => by
  by_cases hkj : k = j
  · subst hkj
    rcases hj with rfl | hj
    · omega
    · exact hj
  · exact h.ord k h0 hk hkj
theorem par_lt {k : Nat} (h : 0 < k) : par k < k := by unfold par; omega

theorem UpOK.step {X : Nat → Item} {f : Nat → Nat} {n j : Nat} (h : UpOK X f n j) (hj : 0 < j) (hjn : j < n) (hb : bef X (f j) (f (par j)) = true) : UpOK X (swp f (par j) j) n (par j) := by
  have hpj := par_lt hj
  obtain ⟨i, hi⟩ : ∃ i, par j = i := ⟨_, rfl⟩
  rw [hi] at hb hpj ⊢
  have sj : swp f i j j = f i := by unfold swp; rw [if_neg (by omega), if_pos rfl]
  have si : swp f i j i = f j := by unfold swp; rw [if_pos rfl]
  have so : ∀ k, k ≠ i → k ≠ j → swp f i j k = f k := fun k h1 h2 => by unfold swp; rw [if_neg h1, if_neg h2]
  rw [bef_iff] at hb
  refine ⟨fun k h0 hk hki => ?_, fun k h0 hk hpk h0i => ?_⟩
  · have hkp := par_lt h0
    by_cases hkj : k = j
    · subst hkj
      rw [hi, sj, si, bef_false]
      omega
    · by_cases hpk : par k = j
      · rw [so k (by omega) hkj, hpk, sj]
        have := h.grand k h0 hk hpk hj
        rwa [hi] at this
      · by_cases hpk2 : par k = i
        · rw [so k hki hkj, hpk2, si]
          have h1 := h.ord k h0 hk hkj
          rw [hpk2] at h1
          rw [bef_false] at h1 ⊢
          omega
        · rw [so k hki hkj, so _ hpk2 hpk]
          exact h.ord k h0 hk hkj
  · have hip := par_lt h0i
    rw [so (par i) (by omega) (by omega)]
    have h1 := h.ord i h0i (by omega) (by omega)
    by_cases hkj : k = j
    · subst hkj
      rw [sj]; exact h1
    · have h2 := h.ord k h0 hk hkj
      have hkp := par_lt h0
      rw [hpk] at h2
      rw [so k (by omega) hkj]
      rw [bef_false] at h1 h2 ⊢
      omega

/-- All is in order but for place i, its parent and its children. -/
structure DownOK (X : Nat → Item) (f : Nat → Nat) (n i : Nat) : Prop where
  ord : ∀ k, 0 < k → k < n → k ≠ i → par k ≠ i → bef X (f k) (f (par k)) = false
  grand : ∀ k, 0 < k → k < n → par k = i → 0 < i → bef X (f k) (f (par i)) = false
/-- .. and place i is in order with its parent. -/
def Sunk (X : Nat → Item) (f : Nat → Nat) (n i : Nat) : Prop := DownOK X f n i ∧ (0 < i → i < n → bef X (f i) (f (par i)) = false)

/-- The child that goes up. -/
structure Kid (X : Nat → Item) (f : Nat → Nat) (n i j : Nat) : Prop where
  lt : j < n
  par : par j = i
  pos : 0 < j
  least : ∀ k, 0 < k → k < n → Go.Proofs.Ybulkdzgm.par k = i → bef X (f k) (f j) = false

theorem DownOK.step {X : Nat → Item} {f : Nat → Nat} {n i j : Nat} (h : DownOK X f n i) (hk : Kid X f n i j) (hb : bef X (f j) (f i) = true) : Sunk X (swp f i j) n j := by
  have hij : i < j := by have := par_lt hk.pos; rw [hk.par] at this; exact this
  have sj : swp f i j j = f i := by unfold swp; rw [if_neg (by omega), if_pos rfl]
  have si : swp f i j i = f j := by unfold swp; rw [if_pos rfl]
  have so : ∀ k, k ≠ i → k ≠ j → swp f i j k = f k := fun k h1 h2 => by unfold swp; rw [if_neg h1, if_neg h2]
  rw [bef_iff] at hb
  refine ⟨⟨fun k h0 hkn hkj hpj => ?_, fun k h0 hkn hpk h0j => ?_⟩, fun _ _ => ?_⟩
  · have hkp := par_lt h0
    by_cases hki : k = i
    · subst hki
      rw [si, so (par k) (by omega) hpj]
      exact h.grand j hk.pos hk.lt hk.par h0
    · by_cases hpi : par k = i
      · rw [so k hki hkj, hpi, si]
        exact hk.least k h0 hkn hpi
      · rw [so k hki hkj, so _ hpi hpj]
        exact h.ord k h0 hkn hki hpi
  · have hkp := par_lt h0
    rw [hk.par, si, so k (by omega) (by omega)]
    have := h.ord k h0 hkn (by omega) (by omega)
    rwa [hpk] at this
  · rw [hk.par, sj, si, bef_false]
    omega
/-- No child goes up: all children are in order. -/
theorem DownOK.rest {X : Nat → Item} {f : Nat → Nat} {n i : Nat} (h : DownOK X f n i) (hr : ∀ k, 0 < k → k < n → par k = i → bef X (f k) (f i) = false) : UpOK X f n i :=
  ⟨fun k h0 hk hki => by
    by_cases hp : par k = i
    · rw [hp]; exact hr k h0 hk hp
    · exact h.ord k h0 hk hki hp, h.grand⟩
theorem Sunk.rest {X : Nat → Item} {f : Nat → Nat} {n i : Nat} (h : Sunk X f n i) (hr : ∀ k, 0 < k → k < n → par k = i → bef X (f k) (f i) = false) : Heap X f n := fun k h0 hk => by
  by_cases hki : k = i
  · subst hki; exact h.2 h0 hk
  · exact (h.1.rest hr).ord k h0 hk hki
theorem Heap.push {X : Nat → Item} {f : Nat → Nat} {n : Nat} (h : Heap X f n) : UpOK X f (n + 1) n :=
  ⟨fun k h0 hk hkn => h k h0 (by omega), fun k h0 hk hp h0n => by have := par_lt h0; omega⟩
theorem Heap.drop {X : Nat → Item} {f : Nat → Nat} {n i : Nat} (h : Heap X f (n + 1)) (hi : i < n) : DownOK X (swp f i n) n i := by
  have so : ∀ k, k ≠ i → k < n → swp f i n k = f k := fun k h1 h2 => by unfold swp; rw [if_neg h1, if_neg (by omega)]
  refine ⟨fun k h0 hk hki hpi => ?_, fun k h0 hk hp h0i => ?_⟩
  · have := par_lt h0
    rw [so k hki hk, so _ hpi (by omega)]
    exact h k h0 (by omega)
  · have := par_lt h0
    have := par_lt h0i
    rw [so k (by omega) hk, so _ (by omega) (by omega)]
    have h1 := h k h0 (by omega)
    have h2 := h i h0i (by omega)
    rw [hp] at h1
    rw [bef_false] at h1 h2 ⊢
    omega
end Go.Proofs.Ybulkdzgm
