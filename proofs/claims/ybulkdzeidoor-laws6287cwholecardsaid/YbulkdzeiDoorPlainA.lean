/-
  PLAIN LAW of LawS6287A: floats as words; no Go program in sight.
-/
import GoSem.Core.Float
import GoSem.Core.Sem
namespace Go.Proofs.YbulkdzeiDoor.A
open Go

/-- How two words of 64 bits stand to each other. -/
def ord (x y : Nat) : Option Ordering := FloatKind.f64.format.order x y

/-- A NaN. -/
abbrev nan (x : Nat) : Prop := ord x x ≠ some .eq

theorem order_self (d : Ieee.Datum) : d.order d = none ∨ d.order d = some .eq := by
  cases d with
  | number s m i =>
    right
    simp [Ieee.Datum.order, Std.ReflCmp.compare_self]
  | infinity s => right; simp [Ieee.Datum.order, Std.ReflCmp.compare_self]
  | nan s t => left; simp [Ieee.Datum.order]

theorem order_none (d e : Ieee.Datum) : d.order e = none ↔ (d.order d = none ∨ e.order e = none) := by
  cases d <;> cases e <;> simp [Ieee.Datum.order]

theorem order_swap (d e : Ieee.Datum) : d.order e = some .gt ↔ e.order d = some .lt := by
  cases d with
  | number s m i =>
    cases e with
    | number t n j =>
      simp only [Ieee.Datum.order, Int.min_comm i j, Option.some.injEq]
      rw [← Std.OrientedCmp.gt_iff_lt (cmp := (compare : Int → Int → Ordering))]
    | infinity t => cases t <;> simp [Ieee.Datum.order]
    | nan t f => simp [Ieee.Datum.order]
  | infinity s =>
    cases e with
    | number t n j => cases s <;> simp [Ieee.Datum.order]
    | infinity t => cases s <;> cases t <;> decide
    | nan t f => simp [Ieee.Datum.order]
  | nan s f => cases e <;> simp [Ieee.Datum.order]

theorem nan_iff (x : Nat) : nan x ↔ ord x x = none := by
  unfold nan ord Ieee.Format.order
  rcases order_self (FloatKind.f64.format.read x) with h | h <;> simp [h]

theorem ord_none (x y : Nat) : ord x y = none ↔ nan x ∨ nan y := by
  rw [nan_iff, nan_iff]
  exact order_none _ _

theorem ord_swap (x y : Nat) : ord x y = some .gt ↔ ord y x = some .lt := order_swap _ _

theorem neg_iff (x : Nat) (h : x < 18446744073709551616) : (FloatKind.f64.decode x).neg = decide (x / 9223372036854775808 = 1) := by
  have hs : Ieee.double.signWeight = 9223372036854775808 := by decide
  have key : (x / 9223372036854775808 % 2 == 1) = decide (x / 9223372036854775808 = 1) := by
    have : x / 9223372036854775808 < 2 := by omega
    rw [Nat.mod_eq_of_lt this]
    simp only [BEq.beq]
  show (Ieee.double.read x).neg = _
  unfold Ieee.Format.read
  simp only [hs]
  rw [← key]
  repeat' split
  all_goals rfl

/-- What the law's own minimum reckons. -/
def zmin (a b : Nat) : Nat := if nan a then a else if nan b then b else if ord a b = some .lt then a else if ord b a = some .lt then b else if a / 9223372036854775808 = 1 then a else b

/-- What Go's builtin min may answer. -/
def MinR (a b r : Nat) : Prop := match ord a b with
  | none => nan r
  | some .lt => r = a
  | some .gt => r = b
  | some .eq => r = if (FloatKind.f64.decode a).neg then a else b

/-- Equal words of 64 bits, or two NaNs. -/
def Sim (a b : Nat) : Prop := (nan a ∧ nan b) ∨ (a = b ∧ a < 18446744073709551616)

theorem Sim.symm {a b : Nat} (h : Sim a b) : Sim b a := by
  rcases h with ⟨h1, h2⟩ | ⟨rfl, h⟩
  · exact Or.inl ⟨h2, h1⟩
  · exact Or.inr ⟨rfl, h⟩

theorem Sim.trans {a b c : Nat} (h : Sim a b) (k : Sim b c) : Sim a c := by
  rcases h with ⟨h1, h2⟩ | ⟨rfl, h⟩
  · rcases k with ⟨k1, k2⟩ | ⟨rfl, k⟩
    · exact Or.inl ⟨h1, k2⟩
    · exact Or.inl ⟨h1, h2⟩
  · exact k

theorem Sim.zmin {a b A B : Nat} (h : Sim a A) (k : Sim b B) : Sim (zmin a b) (zmin A B) := by
  unfold YbulkdzeiDoor.A.zmin
  rcases h with ⟨h1, h2⟩ | ⟨rfl, h⟩
  · rw [if_pos h1, if_pos h2]; exact Or.inl ⟨h1, h2⟩
  · by_cases ha : nan a
    · rw [if_pos ha, if_pos ha]; exact Or.inl ⟨ha, ha⟩
    · rw [if_neg ha, if_neg ha]
      rcases k with ⟨k1, k2⟩ | ⟨rfl, k⟩
      · rw [if_pos k1, if_pos k2]; exact Or.inl ⟨k1, k2⟩
      · refine Or.inr ⟨rfl, ?_⟩
        repeat' split
        all_goals assumption

theorem MinR.sim {a b r A B : Nat} (hm : MinR a b r) (h : Sim a A) (k : Sim b B) : Sim r (YbulkdzeiDoor.A.zmin A B) := by
  refine Sim.trans ?_ (Sim.zmin h k)
  unfold MinR at hm
  unfold YbulkdzeiDoor.A.zmin
  by_cases ha : nan a
  · rw [(ord_none a b).2 (Or.inl ha)] at hm
    rw [if_pos ha]
    exact Or.inl ⟨hm, ha⟩
  · rw [if_neg ha]
    by_cases hb : nan b
    · rw [(ord_none a b).2 (Or.inr hb)] at hm
      rw [if_pos hb]
      exact Or.inl ⟨hm, hb⟩
    · rw [if_neg hb]
      have ha' : a < 18446744073709551616 := by
        rcases h with ⟨h1, _⟩ | ⟨_, h⟩
        · exact absurd h1 ha
        · exact h
      have hb' : b < 18446744073709551616 := by
        rcases k with ⟨h1, _⟩ | ⟨_, h⟩
        · exact absurd h1 hb
        · exact h
      cases ho : ord a b with
      | none => rcases (ord_none a b).1 ho with h | h <;> contradiction
      | some o =>
        rw [ho] at hm
        cases o with
        | lt => simp at hm; subst hm; simp; exact Or.inr ⟨rfl, ha'⟩
        | gt =>
          simp at hm; subst hm
          have hs := (ord_swap a r).1 ho
          simp [hs]; exact Or.inr ⟨rfl, hb'⟩
        | eq =>
          have hs : ord b a ≠ some .lt := fun hh => by rw [(ord_swap a b).2 hh] at ho; cases ho
          simp only [neg_iff a ha'] at hm
          simp only [reduceCtorEq, Option.some.injEq, if_false, hs]
          by_cases h1 : a / 9223372036854775808 = 1
          · simp [h1] at hm ⊢; subst hm; exact Or.inr ⟨rfl, ha'⟩
          · simp [h1] at hm ⊢; subst hm; exact Or.inr ⟨rfl, hb'⟩

/-- What Go's '+' may answer. -/
def AddR (a b r : Nat) : Prop := match FloatKind.f64.format.add a b with
  | none => nan r
  | some s => r = s ∧ s < 18446744073709551616

/-- A NaN of our choice. -/
def qnan : Nat := 9221120237041090560
theorem nan_qnan : nan qnan := by rw [nan_iff]; decide

/-- The sum, a NaN of our choice where it is a NaN. -/
def sumc (a b : Nat) : Nat := (FloatKind.f64.format.add a b).getD qnan

theorem AddR.sim {a b r : Nat} (h : AddR a b r) : Sim r (sumc a b) := by
  unfold AddR at h
  unfold sumc
  cases hs : FloatKind.f64.format.add a b with
  | none => rw [hs] at h; exact Or.inl ⟨h, nan_qnan⟩
  | some s => rw [hs] at h; obtain ⟨rfl, h2⟩ := h; exact Or.inr ⟨rfl, h2⟩

def inf : Nat := 9218868437227405312
theorem sim_inf : Sim inf inf := Or.inr ⟨rfl, by decide⟩

/-- The least of the first k values from lo on, +Inf where there are none. -/
def least (X : Nat → Nat) (lo : Nat) : Nat → Nat
  | 0 => inf
  | k + 1 => zmin (least X lo k) (X (lo + k))

theorem nan_drawn (t : Nat) : nan ((t % 2) * 2 ^ 63 + 0x7ff0000000000000 + 1 + (t / 2) % (2 ^ 52 - 1)) := by
  rw [nan_iff]
  have hs : Ieee.double.signWeight = 9223372036854775808 := by decide
  have hb : Ieee.double.binade = 4503599627370496 := by decide
  have hi : Ieee.double.infRung = 9218868437227405312 := by decide
  generalize ht : (t % 2) * 2 ^ 63 + 0x7ff0000000000000 + 1 + (t / 2) % (2 ^ 52 - 1) = x
  have h1 : 9218868437227405312 < x % 9223372036854775808 := by
    have h2 : (t / 2) % (2 ^ 52 - 1) < 4503599627370495 := Nat.mod_lt _ (by decide)
    generalize (t / 2) % (2 ^ 52 - 1) = u at ht h2
    omega
  have : ∃ s f, Ieee.double.read x = .nan s f := by
    unfold Ieee.Format.read
    simp only [hs, hb, hi]
    rw [if_neg (by omega), if_neg (by omega), if_neg (by omega)]
    exact ⟨_, _, rfl⟩
  obtain ⟨s, f, h⟩ := this
  show (Ieee.double.read x).order (Ieee.double.read x) = none
  rw [h]; rfl
end Go.Proofs.YbulkdzeiDoor.A
