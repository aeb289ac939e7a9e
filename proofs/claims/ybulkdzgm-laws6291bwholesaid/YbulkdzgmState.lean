/-
  THE DIALER AS THE LAW FILLS IT, plain: what each of the two queues holds, and how a push keeps it.
-/
import Derived.Test.YbulkdzgmRoom
namespace Go.Proofs.Ybulkdzgm
open Go Go.RowKit

/-- The queue of the items with ans = a among the first k. -/
structure Half (w : World) (base k : Nat) (X : Nat → Item) (PB : Nat → Nat) (a : Bool) (m : Nat) (f : Nat → Nat) (v : Value) : Prop where
  le : m ≤ k
  own : w.ownsRow base 41 1 v m (ptrs PB f m)
  rng : ∀ i, i < m → f i < k ∧ (X (f i)).ans = a
  inj : ∀ i j, i < m → j < m → f i = f j → i = j
  onto : ∀ i, i < k → (X i).ans = a → ∃ j, j < m ∧ f j = i
  heap : Heap X f m

theorem ptrs_congr {PB PB' f : Nat → Nat} {m : Nat} (h : ∀ i, i < m → PB (f i) = PB' (f i)) : ptrs PB f m = ptrs PB' f m := by
  unfold ptrs
  apply List.map_congr_left
  intro i hi
  rw [h i (by simpa using hi)]
theorem ext_at (f : Nat → Nat) (m x : Nat) : ext f m x m = x := by unfold ext; rw [if_pos rfl]
theorem ext_lt (f : Nat → Nat) {m i : Nat} (x : Nat) (h : i < m) : ext f m x i = f i := by unfold ext; rw [if_neg (by omega)]

theorem Half.start (w : World) (base : Nat) (X : Nat → Item) (PB f : Nat → Nat) (a : Bool) : Half w base 0 X PB a 0 f (.slice none 0 0) :=
  ⟨Nat.le_refl _, World.ownsRow_nil _ _ _ _, fun _ hi => absurd hi (Nat.not_lt_zero _), fun _ _ hi => absurd hi (Nat.not_lt_zero _), fun _ hi => absurd hi (Nat.not_lt_zero _), fun _ _ hk => absurd hk (Nat.not_lt_zero _)⟩
/-- The blocks of the items get one more. -/
theorem Half.pb {w : World} {base k b : Nat} {X : Nat → Item} {PB : Nat → Nat} {a : Bool} {m : Nat} {f : Nat → Nat} {v : Value} (h : Half w base k X PB a m f v) : Half w base k X (ext PB k b) a m f v :=
  ⟨h.le, by rw [ptrs_congr (PB' := PB) (fun i hi => ext_lt PB b (h.rng i hi).1)]; exact h.own, h.rng, h.inj, h.onto, h.heap⟩
theorem Half.kept {w w' : World} {base k : Nat} {X : Nat → Item} {PB : Nat → Nat} {a : Bool} {m : Nat} {f : Nat → Nat} {v : Value} (h : Half w base k X PB a m f v) (hb : ∀ b, v.ownBlock = some b → w'.heap[b]? = w.heap[b]?) : Half w' base k X PB a m f v :=
  ⟨h.le, own_heap h.own hb, h.rng, h.inj, h.onto, h.heap⟩
/-- An item of the other queue. -/
theorem Half.other {w : World} {base k : Nat} {X : Nat → Item} {PB : Nat → Nat} {a : Bool} {m : Nat} {f : Nat → Nat} {v : Value} (h : Half w base k X PB a m f v) (hk : (X k).ans ≠ a) : Half w base (k + 1) X PB a m f v :=
  ⟨by have := h.le; omega, h.own, fun i hi => ⟨by have := (h.rng i hi).1; omega, (h.rng i hi).2⟩, h.inj, fun i hi ha => by
    by_cases hik : i = k
    · subst hik; exact absurd ha hk
    · exact h.onto i (by omega) ha, h.heap⟩
/-- An item of this queue, pushed. -/
theorem Half.push {w w' : World} {base k : Nat} {X : Nat → Item} {PB : Nat → Nat} {a : Bool} {m : Nat} {f f' : Nat → Nat} {v v' : Value} (h : Half w base k X PB a m f v) (hk : (X k).ans = a) (ho : w'.ownsRow base 41 1 v' (m + 1) (ptrs PB f' (m + 1)))
    (hp : Perm (m + 1) (ext f m k) f') (hh : Heap X f m → Heap X f' (m + 1)) : Half w' base (k + 1) X PB a (m + 1) f' v' := by
  have hx : ∀ i, i < m + 1 → ext f m k i < k + 1 ∧ (X (ext f m k i)).ans = a := fun i hi => by
    by_cases him : i = m
    · subst him; rw [ext_at]; exact ⟨by omega, hk⟩
    · rw [ext_lt f k (by omega)]; exact ⟨by have := (h.rng i (by omega)).1; omega, (h.rng i (by omega)).2⟩
  refine ⟨by have := h.le; omega, ho, fun i hi => ?_, hp.inj (fun i j hi hj e => ?_), fun i hi ha => ?_, hh h.heap⟩
  · obtain ⟨j, hj, e⟩ := hp.back i hi
    rw [← e]; exact hx j hj
  · by_cases him : i = m
    · subst him
      by_cases hjm : j = i
      · exact hjm.symm
      · rw [ext_at, ext_lt f k (by omega)] at e
        have := (h.rng j (by omega)).1
        omega
    · by_cases hjm : j = m
      · subst hjm
        rw [ext_at, ext_lt f k (by omega)] at e
        have := (h.rng i (by omega)).1
        omega
      · rw [ext_lt f k (by omega), ext_lt f k (by omega)] at e
        exact h.inj i j (by omega) (by omega) e
  · by_cases hik : i = k
    · subst hik
      obtain ⟨j, hj, e⟩ := hp.fwd m (by omega)
      exact ⟨j, hj, by rw [e, ext_at]⟩
    · obtain ⟨j, hj, e⟩ := h.onto i (by omega) ha
      obtain ⟨j', hj', e'⟩ := hp.fwd j (by omega)
      exact ⟨j', hj', by rw [e', ext_lt f k hj, e]⟩

/-! ### The one that goes -/
theorem none_of {X : Nat → Item} {n m : Nat} {f : Nat → Nat} {a : Bool} (hr : ∀ i, i < m → f i < n ∧ (X (f i)).ans = a) (ho : ∀ i, i < n → (X i).ans = a → ∃ j, j < m ∧ f j = i) : NoneIn X f m ↔ ∀ j, j < n → cand X a j = false := by
  constructor
  · intro h j hj
    unfold cand
    by_cases ha : (X j).ans = a
    · obtain ⟨i, hi, e⟩ := ho j hj ha
      have := h i hi
      rw [e] at this
      rw [this]; simp
    · have : ((X j).ans == a) = false := by simpa using ha
      rw [this]; rfl
  · intro h i hi
    have h1 := h (f i) (hr i hi).1
    unfold cand at h1
    rw [(hr i hi).2] at h1
    simpa using h1
theorem last_of {X : Nat → Item} {n m t : Nat} {f : Nat → Nat} {a : Bool} (hr : ∀ i, i < m → f i < n ∧ (X (f i)).ans = a) (ho : ∀ i, i < n → (X i).ans = a → ∃ j, j < m ∧ f j = i) (h : LastIn X f m t) : Last X n a (f t) := by
  obtain ⟨h1, h2, h3⟩ := h
  refine ⟨by unfold cand; rw [(hr t h1).2, h2]; simp, fun i hi hne hc => ?_⟩
  unfold cand at hc
  simp only [Bool.and_eq_true, beq_iff_eq, Bool.not_eq_true'] at hc
  obtain ⟨j, hj, e⟩ := ho i hi hc.1
  have := h3 j hj (fun e2 => hne (by rw [← e, e2])) (by rw [e]; exact hc.2)
  rwa [e] at this
theorem last_one {X : Nat → Item} {n i j : Nat} {a : Bool} (hi : i < n) (hj : j < n) (h1 : Last X n a i) (h2 : Last X n a j) : i = j := by
  by_cases h : i = j
  · exact h
  · have e1 := h1.2 j hj (fun e => h e.symm) h2.1
    have e2 := h2.2 i hi h h1.1
    rw [bef_iff] at e1 e2
    omega
/-- If one may go, one is the last. -/
theorem last_exists {X : Nat → Item} {a : Bool} : ∀ n, (∃ j, j < n ∧ cand X a j = true) → ∃ j, j < n ∧ Last X n a j
  | 0, ⟨_, h, _⟩ => by omega
  | n + 1, h => by
    by_cases hn : cand X a n = true
    · by_cases hp : ∃ j, j < n ∧ cand X a j = true
      · obtain ⟨j, hj, hl⟩ := last_exists n hp
        cases hb : bef X j n
        · refine ⟨j, by omega, hl.1, fun i hi hij hc => ?_⟩
          by_cases hin : i = n
          · subst hin
            rw [bef_false] at hb
            rw [bef_iff]
            omega
          · exact hl.2 i (by omega) hij hc
        · refine ⟨n, by omega, hn, fun i hi hin hc => ?_⟩
          by_cases hij : i = j
          · subst hij; exact hb
          · have := hl.2 i (by omega) hij hc
            rw [bef_iff] at this hb ⊢
            omega
      · refine ⟨n, by omega, hn, fun i hi hin hc => absurd ⟨i, by omega, hc⟩ hp⟩
    · obtain ⟨j, hj, hc⟩ := h
      have hjn : j ≠ n := fun e => hn (e ▸ hc)
      obtain ⟨t, ht, hl⟩ := last_exists n ⟨j, by omega, hc⟩
      refine ⟨t, by omega, hl.1, fun i hi hit hci => ?_⟩
      by_cases hin : i = n
      · subst hin; exact absurd hci hn
      · exact hl.2 i (by omega) hit hci

/-! ### How often -/
theorem cnt_zero {f : Nat → Nat} {x : Nat} : ∀ m, (∀ i, i < m → f i ≠ x) → cnt f x m = 0
  | 0, _ => rfl
  | m + 1, h => by unfold cnt; rw [cnt_zero m (fun i hi => h i (by omega)), if_neg (h m (by omega))]
theorem cnt_one {f : Nat → Nat} {x : Nat} : ∀ m, (∀ i j, i < m → j < m → f i = f j → i = j) → (∃ i, i < m ∧ f i = x) → cnt f x m = 1
  | 0, _, ⟨_, h, _⟩ => by omega
  | m + 1, hi, ⟨i, him, e⟩ => by
    unfold cnt
    by_cases hm : f m = x
    · rw [if_pos hm, cnt_zero m (fun j hj e2 => by have := hi j m (by omega) (by omega) (by rw [e2, hm]); omega)]
    · rw [if_neg hm, cnt_one m (fun a b ha hb => hi a b (by omega) (by omega)) ⟨i, by
        rcases Nat.lt_or_ge i m with h | h
        · exact h
        · have : i = m := by omega
          subst this; exact absurd e hm, e⟩]

/-! ### The names that are known, the addresses that are listed -/
def names : Nat → ByteArray → Bool
  | 0, _ => false
  | k + 1, s => decide (s = name k) || names k s
theorem names_iff {s : ByteArray} : ∀ k, names k s = true ↔ ∃ i, i < k ∧ s = name i
  | 0 => by simp [names]
  | k + 1 => by
    simp only [names, Bool.or_eq_true, decide_eq_true_eq, names_iff k]
    constructor
    · rintro (h | ⟨i, hi, h⟩)
      · exact ⟨k, by omega, h⟩
      · exact ⟨i, by omega, h⟩
    · rintro ⟨i, hi, h⟩
      by_cases hik : i = k
      · subst hik; exact .inl h
      · exact .inr ⟨i, by omega, h⟩
theorem names_new {k : Nat} (hk : k < 1000) : names k (name k) = false := by
  cases h : names k (name k)
  · rfl
  · obtain ⟨i, hi, e⟩ := (names_iff k).1 h
    have := name_inj hk (by omega) e
    omega
def lst (X : Nat → Item) : Nat → Nat
  | 0 => 0
  | k + 1 => lst X k + if (X k).nam then 0 else 1
theorem lst_le (X : Nat → Item) : ∀ k, lst X k ≤ k
  | 0 => Nat.le_refl _
  | k + 1 => by have := lst_le X k; unfold lst; split <;> omega
theorem lst_pos {X : Nat → Item} : ∀ {k i : Nat}, i < k → (X i).nam = false → 1 ≤ lst X k
  | 0, _, h, _ => by omega
  | k + 1, i, h, hn => by
    unfold lst
    by_cases hik : i = k
    · subst hik; rw [hn]; simp
    · have := lst_pos (k := k) (by omega) hn; omega

/-- The dialer behind k items. -/
structure St (w wr : World) (D mb pb n k : Nat) (X : Nat → Item) (PB f6 f7 : Nat → Nat) (m6 m7 : Nat) (v6 v7 : Value) (Dc Pc : Array Value) : Prop where
  bel : Below w.heap.size w wr
  dd : wr.heap[D]? = some (.cells Dc 38 (0, 0))
  ds : Dc.size = 9
  c4 : Dc[4]? = some (.map (some mb))
  c5 : Dc[5]? = some (.int .i64 (lst X k))
  c6 : Dc[6]? = some v6
  c7 : Dc[7]? = some v7
  c8 : Dc[8]? = some (.int .u64 k)
  kn : Known wr mb k (names k) k
  pp : wr.heap[pb]? = some (.cells Pc 41 (0, 0))
  ps : Pc.size = n
  pr : ∀ i, i < k → Pc[i]? = some (.pointer (some ⟨PB i, 0, none⟩))
  pn : ∀ i, k ≤ i → i < n → ∃ a, Pc[i]? = some (.pointer a)
  it : ∀ i, i < k → wr.heap[PB i]? = some (.cells ((X i).cells i) 49 (0, 0))
  inj : ∀ i j, i < k → j < k → PB i = PB j → i = j
  q6 : Half wr w.heap.size k X PB true m6 f6 v6
  q7 : Half wr w.heap.size k X PB false m7 f7 v7
  ne : ∀ b, v6.ownBlock = some b → v7.ownBlock ≠ some b
  n6 : v6.ownBlock ≠ some pb
  n7 : v7.ownBlock ≠ some pb
  lD : w.heap.size ≤ D
  lm : w.heap.size ≤ mb
  lp : w.heap.size ≤ pb
  lP : ∀ i, i < k → w.heap.size ≤ PB i
end Go.Proofs.Ybulkdzgm
