/-
  THE WALKS of possible's helpers: Floor, the closure that counts, Compare, the search.
-/
import Derived.Test.YbulkdzeiDoorCEnd
namespace Go.Proofs.YbulkdzeiDoor.C
open Go Go.RowKit
open Go.Proofs.YbulkdzeiDoor.A (fbits ffrom run_fadd addV addN run_store_float)

theorem floor_eq (n : String) (q : Nat) (s : Bool) (m : Nat) (i : Int) (h1 : FloatKind.f64.decode q = .number s m i) : Extern.MathFloor.toIntegral n .down #[.float .f64 q] = pure (.float .f64 (FloatKind.f64.encode ((Ieee.Datum.number s m i).integral .down))) := by
  show (match FloatKind.f64.decode q with | .nan _ _ => (_ : Sem Value) | d => pure (Value.float .f64 (FloatKind.f64.encode (d.integral .down)))) = _
  rw [h1]

/-- What archFloor gives for a number. -/
theorem ffloor (q r : Nat) (s : Bool) (m : Nat) (i : Int) (h1 : FloatKind.f64.decode q = .number s m i) (h2 : FloatKind.f64.encode ((FloatKind.f64.decode q).integral .down) = r) (w : World) : (callFunc 31 #[.float .f64 q]).run Ybad.prog w = .ok (.value (.float .f64 r)) w := by
  rw [h1] at h2
  have h3 : Extern.MathFloor.toIntegral "math.archFloor" .down #[.float .f64 q] = pure (.float .f64 r) := by rw [floor_eq _ q s m i h1, h2]
  have h := run_callFunc_extern (e := Extern.MathFloor.toIntegral "math.archFloor" .down) Ybad.func31 (by kernel_rfl) (by kernel_rfl) (by kernel_rfl) (by kernel_rfl) #[.float .f64 q] w
  rw [h, h3]
  rfl

/-! ### Exact operations on small whole numbers -/
theorem run_add_fi {n m : Int} (hn : n.natAbs < 1000000000000) (hm : m.natAbs < 1000000000000) (t : TypeId) (w : World) : (binOp .add t (.float .f64 (fi n)) (.float .f64 (fi m))).run Ybad.prog w = .ok (.float .f64 (fi (n + m))) w := by
  simp [binOp, Op.floatArith, fi_add (n := n) (m := m) (by omega) (by omega) (by omega)]
theorem run_sub_fi {n m : Int} (hn : n.natAbs < 1000000000000) (hm : m.natAbs < 1000000000000) (t : TypeId) (w : World) : (binOp .sub t (.float .f64 (fi n)) (.float .f64 (fi m))).run Ybad.prog w = .ok (.float .f64 (fi (n - m))) w := by
  simp [binOp, Op.floatArith, fi_sub (n := n) (m := m) (by omega) (by omega) (by omega)]
theorem run_mul_fi {n m : Int} (hn : n.natAbs < 1000000000000) (hm : m.natAbs < 1000000000000) (h0 : 0 ≤ n) (h1 : 0 ≤ m) (h : n * m < 1000000000000) (t : TypeId) (w : World) : (binOp .mul t (.float .f64 (fi n)) (.float .f64 (fi m))).run Ybad.prog w = .ok (.float .f64 (fi (n * m))) w := by
  have := Int.mul_nonneg h0 h1
  simp [binOp, Op.floatArith, fi_mul (n := n) (m := m) (by omega) (by omega) (by omega) h0 h1]
theorem run_max_fi {x : Int} (hx : x.natAbs < 1000000000000) (w : World) : (Builtin.max_ #[24, 24] 24 #[.float .f64 0, .float .f64 (fi x)]).run Ybad.prog w = .ok (.float .f64 (fi (x.toNat : Int))) w := by
  have ho := fi_ord (n := 0) (m := x) (by decide) (by omega)
  rw [fi_zero] at ho
  simp only [Builtin.max_, List.foldlM_cons, List.foldlM_nil]
  unfold Builtin.max2
  rcases Int.lt_trichotomy 0 x with h | h | h
  · rw [Int.compare_eq_lt.2 h] at ho
    have : ((x.toNat : Nat) : Int) = x := by omega
    simp [ho, this]
  · subst h
    rw [Int.compare_eq_eq.2 rfl, fi_zero] at ho
    simp [ho, fi_zero]
  · rw [Int.compare_eq_gt.2 h] at ho
    have : ((x.toNat : Nat) : Int) = 0 := by omega
    simp [ho, this, fi_zero]

/-- How often a / 4 goes into the time left. -/
def cnt (t : Int) (k : Nat) (d : Int) : Nat := 4 * (d - t).toNat / k
theorem cnt_mono {t d d' : Int} {k : Nat} (h : d ≤ d') : cnt t k d ≤ cnt t k d' := by
  unfold cnt
  exact Nat.div_le_div_right (by omega)
theorem cnt_le {t d : Int} {k : Nat} (h : (d - t).toNat ≤ 200000) : cnt t k d ≤ 800000 := by
  unfold cnt
  exact Nat.le_trans (Nat.div_le_self _ _) (by omega)

theorem quo_fi (x k : Nat) (hx : x < 1048576) (hk : 0 < k) (hk2 : k ≤ 16) : ∃ q, (∀ w, (binOp .quo 24 (.float .f64 (fi x)) (.float .f64 (q4 k))).run Ybad.prog w = .ok (.float .f64 q) w) ∧ ∀ w, (callFunc 31 #[.float .f64 q]).run Ybad.prog w = .ok (.value (.float .f64 (fi ((4 * x / k : Nat) : Int)))) w := by
  have hA := (q4_div k hk hk2).2
  by_cases h0 : x = 0
  · subst h0
    refine ⟨0, fun w => ?_, ffloor 0 _ _ _ _ (show FloatKind.f64.decode 0 = _ from read_zero) ?_⟩
    · have := div_zero k (q4 k) hk hA
      have hz : fi ((0 : Nat) : Int) = 0 := fi_zero
      rw [hz]
      simp [binOp, Op.floatArith, this]
    · have hz : fi ((4 * 0 / k : Nat) : Int) = 0 := by rw [Nat.mul_zero, Nat.zero_div]; exact fi_zero
      rw [hz]
      exact floor_zero
  · obtain ⟨q, h1, ⟨s, m, i, h2⟩, h3⟩ := floor_quot x k (q4 k) (by omega) hx hk hk2 hA
    exact ⟨q, fun w => by simp [binOp, Op.floatArith, h1], ffloor q _ s m i h2 h3⟩

set_option maxRecDepth 100000 in
set_option maxHeartbeats 1000000 in
theorem floor_any (q r : Nat) (w : World) (h : ∀ w, (callFunc 31 #[.float .f64 q]).run Ybad.prog w = .ok (.value (.float .f64 r)) w) : Calls Ybad.prog 16 #[.float .f64 q] w fun e w' => e = .returned (.float .f64 r) ∧ w' = w := by
  go_enter Ybad.func16, Ybad.ntmps16
  go_wp2_with fail
  go_ret
  exact ⟨rfl, rfl⟩

set_option maxRecDepth 100000 in
set_option maxHeartbeats 1000000 in
theorem count_any (d t : Int) (k tb ab : Nat) (w : World) (hd : d.natAbs < 100000) (ht : t.natAbs < 1000) (hk : 0 < k) (hk2 : k ≤ 16) (c1 : w.cell? ⟨tb, 0, none⟩ = some (.float .f64 (fi t))) (c2 : w.cell? ⟨ab, 0, none⟩ = some (.float .f64 (q4 k))) :
    Calls Ybad.prog 26 #[.float .f64 (fi d), .pointer (some ⟨tb, 0, none⟩), .pointer (some ⟨ab, 0, none⟩)] w fun e w' => e = .returned (.float .f64 (fi (cnt t k d : Int))) ∧ w' = w := by
  have h1 := run_sub_fi (n := d) (m := t) (by omega) (by omega) 24
  have h2 := run_max_fi (x := d - t) (by omega)
  obtain ⟨q, h3, h4⟩ := quo_fi (d - t).toNat k (by omega) hk hk2
  obtain ⟨c, hc⟩ : ∃ c, cnt t k d = c := ⟨_, rfl⟩
  rw [hc]
  unfold cnt at hc
  obtain ⟨x, hx⟩ : ∃ x, (d - t).toNat = x := ⟨_, rfl⟩
  rw [hx] at h2 h3 h4 hc
  rw [hc] at h4
  clear hx hc
  go_enter Ybad.func26, Ybad.ntmps26
  go_wp2_with (go_at_call 16; refine (floor_any _ _ _ h4).mono ?_; rintro e w' ⟨rfl, rfl⟩)
  go_ret
  exact ⟨rfl, rfl⟩

/-! ### cmp.Compare -/
def cmpI (a b : Int) : Int := if a < b then -1 else if b < a then 1 else 0

set_option maxRecDepth 100000 in
set_option maxHeartbeats 1000000 in
theorem isnan_fi (a : Int) (ha : a.natAbs < 1000000000000) (w : World) : Calls Ybad.prog 40 #[.float .f64 (fi a)] w fun e w' => e = .returned (.bool false) ∧ w' = w := by
  have ho := fi_ord (n := a) (m := a) (by omega) (by omega)
  rw [Int.compare_eq_eq.2 rfl] at ho
  go_enter Ybad.func40, Ybad.ntmps40
  go_wp2_with fail
  go_ret
  exact ⟨rfl, rfl⟩

set_option maxRecDepth 100000 in
set_option maxHeartbeats 1000000 in
theorem compare_any (a b : Int) (ha : a.natAbs < 1000000000000) (hb : b.natAbs < 1000000000000) (w : World) : Calls Ybad.prog 29 #[.float .f64 (fi a), .float .f64 (fi b)] w fun e w' => e = .returned (.int .i64 (cmpI a b)) ∧ w' = w := by
  have ho := fi_ord (n := a) (m := b) (by omega) (by omega)
  rcases Int.lt_trichotomy a b with h | h | h
  · have hc : cmpI a b = -1 := by unfold cmpI; rw [if_pos h]
    rw [hc]
    rw [Int.compare_eq_lt.2 h] at ho
    clear hc
    go_enter Ybad.func29, Ybad.ntmps29
    go_wp2_with (first | (go_at_call 40; refine (isnan_fi a ha _).mono ?_; rintro e w' ⟨rfl, rfl⟩) | (go_at_call 40; refine (isnan_fi b hb _).mono ?_; rintro e w' ⟨rfl, rfl⟩))
    go_ret
    exact ⟨rfl, rfl⟩
  · have hc : cmpI a b = 0 := by unfold cmpI; rw [if_neg (by omega), if_neg (by omega)]
    rw [hc]
    rw [Int.compare_eq_eq.2 h] at ho
    clear hc h
    go_enter Ybad.func29, Ybad.ntmps29
    go_wp2_with (first | (go_at_call 40; refine (isnan_fi a ha _).mono ?_; rintro e w' ⟨rfl, rfl⟩) | (go_at_call 40; refine (isnan_fi b hb _).mono ?_; rintro e w' ⟨rfl, rfl⟩))
    go_ret
    exact ⟨rfl, rfl⟩
  · have hc : cmpI a b = 1 := by unfold cmpI; rw [if_neg (by omega), if_pos h]
    rw [hc]
    rw [Int.compare_eq_gt.2 h] at ho
    clear hc
    go_enter Ybad.func29, Ybad.ntmps29
    go_wp2_with (first | (go_at_call 40; refine (isnan_fi a ha _).mono ?_; rintro e w' ⟨rfl, rfl⟩) | (go_at_call 40; refine (isnan_fi b hb _).mono ?_; rintro e w' ⟨rfl, rfl⟩))
    go_ret
    exact ⟨rfl, rfl⟩
end Go.Proofs.YbulkdzeiDoor.C
