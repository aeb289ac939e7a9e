/-
  THE WALKS of LawS6287A: the small functions.
-/
import Derived.Test.YbulkdzeiDoorRows
import Derived.Test.YbulkdzeiDoorPlainA
import Derived.WalkKit
import Derived.WalkSpells
import Derived.WalkLawsBesides
import Derived.Deep.RegionHeld3
import Derived.BigQuiet
namespace Go.Proofs.YbulkdzeiDoor.A
open Go Go.RowKit

theorem fbits (b : Nat) (w : World) : (callFunc 22 #[.float .f64 b]).run Ybad.prog w = .ok (.value (.int .u64 (b : Int))) w :=
  run_callFunc_extern (e := Extern.MathFloatBits.float64bits) Ybad.func22 (by kernel_rfl) (by kernel_rfl) (by kernel_rfl) (by kernel_rfl) _ w
theorem ffrom (n : Int) (w : World) : (callFunc 21 #[.int .u64 n]).run Ybad.prog w = .ok (.value (.float .f64 n.toNat)) w :=
  run_callFunc_extern (e := Extern.MathFloatBits.float64frombits) Ybad.func21 (by kernel_rfl) (by kernel_rfl) (by kernel_rfl) (by kernel_rfl) _ w
attribute [local go_sem] fbits ffrom

set_option maxHeartbeats 400000 in
theorem inf_any (w : World) :
    Calls Ybad.prog 6 #[.int .i64 1] w fun e w' => e = .returned (.float .f64 9218868437227405312) ∧ w' = w := by
  go_enter Ybad.func6, Ybad.ntmps6
  go_wp2
  go_ret
  exact ⟨rfl, rfl⟩

theorem ret_float {a b : Nat} (h : a = b) : Ending.returned (.float .f64 a) = .returned (.float .f64 b) := by rw [h]

theorem same1 {a b : Nat} (h1 : (FloatKind.f64.format.order a a != some Ordering.eq) = true) (h : Sim a b) : (FloatKind.f64.format.order b b != some Ordering.eq) = true := by
  rcases h with ⟨_, h⟩ | ⟨rfl, h⟩
  · exact bne_iff_ne.2 h
  · exact h1
theorem same2 {a b : Nat} (h1 : (FloatKind.f64.format.order a a != some Ordering.eq) = false) (h : Sim a b) : ((a : Int) == (b : Int)) = true := by
  rcases h with ⟨h, _⟩ | ⟨rfl, h⟩
  · exact absurd (bne_iff_ne.2 h) (by unfold ord; rw [h1]; simp)
  · simp

set_option maxHeartbeats 400000 in
theorem same_any (a b : Nat) (w : World) :
    Calls Ybad.prog 8 #[.float .f64 a, .float .f64 b] w fun e w' => ∃ r, e = .returned (.bool r) ∧ (Sim a b → r = true) ∧ w' = w := by
  go_enter Ybad.func8, Ybad.ntmps8
  go_wp2
  · go_ret
    exact ⟨_, rfl, same1 ‹_›, rfl⟩
  · go_ret
    exact ⟨_, rfl, same2 ‹_›, rfl⟩

section
variable {a b : Nat}
theorem z1 (h1 : (FloatKind.f64.format.order a a != some Ordering.eq) = true) : a = zmin a b := by
  have h1 : nan a := bne_iff_ne.1 h1
  unfold zmin; rw [if_pos h1]
theorem z2 (h1 : (FloatKind.f64.format.order a a != some Ordering.eq) = false) (h2 : (FloatKind.f64.format.order b b != some Ordering.eq) = true) : b = zmin a b := by
  have h1 : ¬ nan a := by unfold nan ord; simpa using h1
  have h2 : nan b := bne_iff_ne.1 h2
  unfold zmin; rw [if_neg h1, if_pos h2]
theorem z3 (h1 : (FloatKind.f64.format.order a a != some Ordering.eq) = false) (h2 : (FloatKind.f64.format.order b b != some Ordering.eq) = false)
    (h3 : (FloatKind.f64.format.order a b == some Ordering.lt) = true) : a = zmin a b := by
  have h1 : ¬ nan a := by unfold nan ord; simpa using h1
  have h2 : ¬ nan b := by unfold nan ord; simpa using h2
  have h3 : ord a b = some .lt := by simpa [ord] using h3
  unfold zmin; rw [if_neg h1, if_neg h2, if_pos h3]
theorem z4 (h1 : (FloatKind.f64.format.order a a != some Ordering.eq) = false) (h2 : (FloatKind.f64.format.order b b != some Ordering.eq) = false)
    (h3 : (FloatKind.f64.format.order a b == some Ordering.lt) = false) (h4 : (FloatKind.f64.format.order b a == some Ordering.lt) = true) : b = zmin a b := by
  have h1 : ¬ nan a := by unfold nan ord; simpa using h1
  have h2 : ¬ nan b := by unfold nan ord; simpa using h2
  have h3 : ¬ ord a b = some .lt := by simpa [ord] using h3
  have h4 : ord b a = some .lt := by simpa [ord] using h4
  unfold zmin; rw [if_neg h1, if_neg h2, if_neg h3, if_pos h4]
theorem z5 (h1 : (FloatKind.f64.format.order a a != some Ordering.eq) = false) (h2 : (FloatKind.f64.format.order b b != some Ordering.eq) = false)
    (h3 : (FloatKind.f64.format.order a b == some Ordering.lt) = false) (h4 : (FloatKind.f64.format.order b a == some Ordering.lt) = false)
    (h5 : ((a : Int) / 9223372036854775808 == 1) = true) : a = zmin a b := by
  have h1 : ¬ nan a := by unfold nan ord; simpa using h1
  have h2 : ¬ nan b := by unfold nan ord; simpa using h2
  have h3 : ¬ ord a b = some .lt := by simpa [ord] using h3
  have h4 : ¬ ord b a = some .lt := by simpa [ord] using h4
  have h5 : a / 9223372036854775808 = 1 := by have := eq_of_beq h5; omega
  unfold zmin; rw [if_neg h1, if_neg h2, if_neg h3, if_neg h4, if_pos h5]
theorem z6 (h1 : (FloatKind.f64.format.order a a != some Ordering.eq) = false) (h2 : (FloatKind.f64.format.order b b != some Ordering.eq) = false)
    (h3 : (FloatKind.f64.format.order a b == some Ordering.lt) = false) (h4 : (FloatKind.f64.format.order b a == some Ordering.lt) = false)
    (h5 : ((a : Int) / 9223372036854775808 == 1) = false) : b = zmin a b := by
  have h1 : ¬ nan a := by unfold nan ord; simpa using h1
  have h2 : ¬ nan b := by unfold nan ord; simpa using h2
  have h3 : ¬ ord a b = some .lt := by simpa [ord] using h3
  have h4 : ¬ ord b a = some .lt := by simpa [ord] using h4
  have h5 : ¬ a / 9223372036854775808 = 1 := by have := ne_of_beq_false h5; omega
  unfold zmin; rw [if_neg h1, if_neg h2, if_neg h3, if_neg h4, if_neg h5]
end

set_option maxHeartbeats 400000 in
theorem zmin_any (a b : Nat) (w : World) :
    Calls Ybad.prog 7 #[.float .f64 a, .float .f64 b] w fun e w' => e = .returned (.float .f64 (zmin a b)) ∧ w' = w := by
  go_enter Ybad.func7, Ybad.ntmps7
  go_wp2
  all_goals go_ret
  · exact ⟨ret_float (z1 ‹_›), rfl⟩
  · exact ⟨ret_float (z2 ‹_› ‹_›), rfl⟩
  · exact ⟨ret_float (z3 ‹_› ‹_› ‹_›), rfl⟩
  · exact ⟨ret_float (z4 ‹_› ‹_› ‹_› ‹_›), rfl⟩
  · exact ⟨ret_float (z5 ‹_› ‹_› ‹_› ‹_› ‹_›), rfl⟩
  · exact ⟨ret_float (z6 ‹_› ‹_› ‹_› ‹_› ‹_›), rfl⟩

/-! ### Go's builtin min and '+' on floats: value and world written out -/
theorem run_store_float {P : Program} (w : World) (a : Addr) (m : Mode) (k : FloatKind) (n : Nat) : (store a (.float k n) m).run P w = stored P w a (.float k n) m := run_store P w a _ m rfl
def minV (w : World) (a b : Nat) : Nat := match ord a b with
  | none => Question.cut (.nanMinMax .f64 false a b) (w.tape w.drawn (.nanMinMax .f64 false a b))
  | some .lt => a
  | some .gt => b
  | some .eq => if (FloatKind.f64.decode a).neg then a else b
def minN (a b : Nat) : Nat := match ord a b with
  | none => 1
  | some _ => 0
theorem run_min2 (a b : Nat) (w : World) : (Builtin.min2 (.float .f64 a) (.float .f64 b)).run Ybad.prog w = .ok (.float .f64 (minV w a b)) (w.drewN (minN a b)) := by
  unfold Builtin.min2 minV minN ord
  cases h : FloatKind.f64.format.order a b with
  | none => simp [h, Question.forced, World.drewN]
  | some o => cases o <;> simp [h, World.drewN_zero]
theorem run_min (t : TypeId) (ts : Array TypeId) (a b : Nat) (w : World) : (Builtin.min_ ts t #[.float .f64 a, .float .f64 b]).run Ybad.prog w = .ok (.float .f64 (minV w a b)) (w.drewN (minN a b)) := by
  have := run_min2 a b w
  simp only [Builtin.min_, List.foldlM_cons, List.foldlM_nil, Sem.run_bind, this, Result.andThen, Sem.run_pure]
theorem minV_R (w : World) (a b : Nat) : MinR a b (minV w a b) := by
  unfold MinR minV
  cases h : ord a b with
  | none => exact nan_drawn _
  | some o => cases o <;> rfl
def addV (w : World) (a b : Nat) : Nat := match FloatKind.f64.format.add a b with
  | none => Question.cut (.nanBits .f64 a b) (w.tape w.drawn (.nanBits .f64 a b))
  | some s => s
def addN (a b : Nat) : Nat := match FloatKind.f64.format.add a b with
  | none => 1
  | some _ => 0
theorem run_fadd (t : TypeId) (a b : Nat) (w : World) : (binOp .add t (.float .f64 a) (.float .f64 b)).run Ybad.prog w = .ok (.float .f64 (addV w a b)) (w.drewN (addN a b)) := by
  unfold addV addN
  cases h : FloatKind.f64.format.add a b with
  | none => simp [binOp, Op.floatArith, h, Question.forced, World.drewN]
  | some s => simp [binOp, Op.floatArith, h, World.drewN_zero]
theorem addV_R (w : World) (a b : Nat) : AddR a b (addV w a b) := by
  unfold AddR addV
  cases h : FloatKind.f64.format.add a b with
  | none => exact nan_drawn _
  | some s => exact ⟨rfl, FloatKind.f64.format.add_lt h⟩
theorem setCell_drewN (w : World) (n : Nat) (a : Addr) (v : Value) : (w.drewN n).setCell a v = (w.setCell a v).drewN n := rfl
theorem alloc_drewN (w : World) (n : Nat) (o : Obj) : (w.drewN n).alloc o = (w.alloc o).drewN n := rfl
attribute [local go_sem ↓] run_min run_fadd
attribute [local go_sem] run_store_float setCell_drewN alloc_drewN

set_option maxHeartbeats 400000 in
theorem boundOf_any (a b : Nat) (w : World) :
    Calls Ybad.prog 20 #[.float .f64 a, .float .f64 b] w fun e w' => ∃ s, e = .returned (.agg #[.float .f64 a, .float .f64 b, .float .f64 s]) ∧ AddR a b s ∧ Below w.heap.size w w' := by
  go_enter Ybad.func20, Ybad.ntmps20
  go_wp2
  simp [bodyPost, results, Ybad.results20, go_sem]
  exact ⟨addV_R _ _ _, below_drewN ((Below.refl _ _).alloc (Nat.le_refl _) _) _⟩

set_option maxHeartbeats 400000 in
theorem join_any (a b c a' b' c' : Nat) (w : World) :
    Calls Ybad.prog 19 #[.agg #[.float .f64 a, .float .f64 b, .float .f64 c], .agg #[.float .f64 a', .float .f64 b', .float .f64 c']] w fun e w' =>
      ∃ x y z, e = .returned (.agg #[.float .f64 x, .float .f64 y, .float .f64 z]) ∧ MinR a a' x ∧ MinR b b' y ∧ MinR c c' z ∧ Below w.heap.size w w' := by
  go_enter Ybad.func19, Ybad.ntmps19
  go_wp2
  simp [bodyPost, results, Ybad.results19, go_sem]
  refine ⟨_, _, _, ⟨rfl, rfl, rfl⟩, minV_R _ _ _, minV_R _ _ _, minV_R _ _ _, ?_⟩
  exact below_drewN ((((Below.refl _ _).alloc (Nat.le_refl _) _).alloc (by simp) _).alloc (by simp; omega) _) _

theorem same_self (a : Nat) (w : World) : Calls Ybad.prog 8 #[.float .f64 a, .float .f64 a] w fun e w' => e = .returned (.bool true) ∧ w' = w := by
  go_enter Ybad.func8, Ybad.ntmps8
  go_wp2
  · go_ret
    exact ⟨by simp [*], rfl⟩
  · go_ret
    exact ⟨by simp, rfl⟩

set_option maxHeartbeats 400000 in
theorem samelisted_any (a b c : Nat) (i j : Int) (w : World) :
    Calls Ybad.prog 9 #[.agg #[.float .f64 a, .float .f64 b, .float .f64 c, .int .i64 i, .int .i64 j], .agg #[.float .f64 a, .float .f64 b, .float .f64 c, .int .i64 i, .int .i64 j]] w fun e w' =>
      e = .returned (.bool true) ∧ Below w.heap.size w w' := by
  go_enter Ybad.func9, Ybad.ntmps9
  go_wp2_with (go_at_call 8; refine (same_self _ _).mono ?_; rintro e w' ⟨rfl, rfl⟩)
  go_ret
  exact ⟨rfl, ((Below.refl _ _).alloc (Nat.le_refl _) _).alloc (by simp) _⟩

end Go.Proofs.YbulkdzeiDoor.A
