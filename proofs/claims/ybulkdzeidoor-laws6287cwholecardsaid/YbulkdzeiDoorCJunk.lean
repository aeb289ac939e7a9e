/-
  THE WALKS of the exact sums' helpers: nothing is said of the values.
-/
import Derived.Test.YbulkdzeiDoorCKit
namespace Go.Proofs.YbulkdzeiDoor.C
open Go Go.RowKit
open Go.Proofs.YbulkdzeiDoor.A (fbits ffrom run_fadd addV addN run_store_float)
attribute [local go_sem ↓] run_fadd run_fsub run_fmul
attribute [local go_sem] fbits ffrom run_store_float setCell_drewN alloc_drewN


set_option maxRecDepth 100000 in
set_option maxHeartbeats 1000000 in
theorem rounding_any (a b s : Nat) (w : World) : Calls Ybad.prog 47 #[.float .f64 a, .float .f64 b, .float .f64 s] w fun e w' => ∃ r n, e = .returned (.float .f64 r) ∧ w' = w.drewN n := by
  go_enter Ybad.func47, Ybad.ntmps47
  go_wp2_with fail
  go_ret
  exact ⟨_, _, rfl, rfl⟩

set_option maxRecDepth 100000 in
set_option maxHeartbeats 1000000 in
theorem isNaN_any (a : Nat) (w : World) : Calls Ybad.prog 41 #[.float .f64 a] w fun e w' => ∃ r, e = .returned (.bool r) ∧ w' = w := by
  go_enter Ybad.func41, Ybad.ntmps41
  go_wp2_with fail
  go_ret
  exact ⟨_, rfl, rfl⟩

set_option maxRecDepth 100000 in
set_option maxHeartbeats 1000000 in
theorem abs_any (a : Nat) (w : World) : Calls Ybad.prog 34 #[.float .f64 a] w fun e w' => ∃ r, e = .returned (.float .f64 r) ∧ w' = w := by
  go_enter Ybad.func34, Ybad.ntmps34
  go_wp2_with fail
  go_ret
  exact ⟨_, rfl, rfl⟩

set_option maxRecDepth 100000 in
set_option maxHeartbeats 1000000 in
theorem isInf_any (a : Nat) (w : World) : Calls Ybad.prog 42 #[.float .f64 a, .int .i64 0] w fun e w' => ∃ r, e = .returned (.bool r) ∧ w' = w := by
  go_enter Ybad.func42, Ybad.ntmps42
  go_wp2_with (go_at_call 34; refine (abs_any _ _).mono ?_; rintro e w' ⟨r, rfl, rfl⟩)
  go_ret
  exact ⟨_, rfl, rfl⟩

set_option maxRecDepth 100000 in
set_option maxHeartbeats 1000000 in
theorem finite_any (a : Nat) (w : World) : Calls Ybad.prog 39 #[.float .f64 a] w fun e w' => ∃ r, e = .returned (.bool r) ∧ w' = w := by
  go_enter Ybad.func39, Ybad.ntmps39
  go_wp2_with fail
  refine (isInf_any _ _).mono ?_
  rintro e w' ⟨r, rfl, rfl⟩
  cases r
  · go_wp2_with fail
    refine (isNaN_any _ _).mono ?_
    rintro e w' ⟨r, rfl, rfl⟩
    go_wp2_with fail
    go_ret
    exact ⟨_, rfl, rfl⟩
  · go_wp2_with fail
    go_ret
    exact ⟨_, rfl, rfl⟩

set_option maxRecDepth 100000 in
set_option maxHeartbeats 1000000 in
theorem copysign_any (a b : Nat) (w : World) : Calls Ybad.prog 36 #[.float .f64 a, .float .f64 b] w fun e w' => ∃ r, e = .returned (.float .f64 r) ∧ w' = w := by
  go_enter Ybad.func36, Ybad.ntmps36
  go_wp2_with fail
  go_ret
  exact ⟨_, rfl, rfl⟩

set_option maxRecDepth 100000 in
set_option maxHeartbeats 1000000 in
theorem mul64_any (a b : Int) (w : World) : Calls Ybad.prog 35 #[.int .u64 a, .int .u64 b] w fun e w' => ∃ h l, e = .returned (.tuple #[.int .u64 h, .int .u64 l]) ∧ w' = w := by
  go_enter Ybad.func35, Ybad.ntmps35
  go_wp2_with fail
  go_ret2
  exact ⟨_, _, rfl, rfl⟩

/-- The table of TrailingZeros64. -/
def Tab (w : World) : Prop := ∀ i, i < 64 → ∃ z : Int, w.cell? ⟨2, i, none⟩ = some (.int .u8 z) ∧ 0 ≤ z ∧ z ≤ 63

set_option maxRecDepth 100000 in
set_option maxHeartbeats 1000000 in
theorem tz_any (a : Int) (w : World) (ht : Tab w) : Calls Ybad.prog 44 #[.int .u64 a] w fun e w' => ∃ z : Int, e = .returned (.int .i64 z) ∧ 0 ≤ z ∧ z ≤ 64 ∧ w' = w := by
  obtain ⟨X, hX⟩ : ∃ X, IntKind.u64.wrap (bits BinOp.and IntKind.u64 a (IntKind.u64.wrap (-a)) * 285870213051353865) / 288230376151711744 = X := ⟨_, rfl⟩
  have hb : 0 ≤ X ∧ X < 64 := by
    rw [← hX]
    generalize bits BinOp.and IntKind.u64 a (IntKind.u64.wrap (-a)) * 285870213051353865 = y
    have : IntKind.u64.wrap y = y % 18446744073709551616 := by simp [IntKind.wrap, IntKind.bits, IntKind.signed]
    rw [this]
    omega
  obtain ⟨h0, h1⟩ := hb
  obtain ⟨z, hz, z0, z1⟩ := ht X.toNat (by omega)
  go_enter Ybad.func44, Ybad.ntmps44
  go_wp2_with fail
  · go_ret
    exact ⟨_, rfl, by omega, by omega, rfl⟩
  · go_ret
    exact ⟨_, rfl, by omega, by omega, rfl⟩

set_option maxRecDepth 100000 in
set_option maxHeartbeats 1000000 in
theorem odd_any (a : Nat) (w : World) (ht : Tab w) : Calls Ybad.prog 33 #[.float .f64 a] w fun e w' => ∃ m k, e = .returned (.tuple #[.int .u64 m, .int .i64 k]) ∧ w' = w := by
  go_enter Ybad.func33, Ybad.ntmps33
  go_wp2_with (go_at_call 44; refine (tz_any _ _ ht).mono ?_; rintro e w' ⟨z, rfl, z0, z1, rfl⟩)
  all_goals go_ret2
  all_goals exact ⟨_, _, rfl, rfl⟩

set_option maxRecDepth 100000 in
set_option maxHeartbeats 1000000 in
theorem inf_any (k : Int) (w : World) : Calls Ybad.prog 6 #[.int .i64 k] w fun e w' => ∃ r, e = .returned (.float .f64 r) ∧ w' = w := by
  go_enter Ybad.func6, Ybad.ntmps6
  go_wp2_with fail
  all_goals go_ret
  all_goals exact ⟨_, rfl, rfl⟩

set_option maxRecDepth 100000 in
set_option maxHeartbeats 1000000 in
theorem normalize_any (a : Nat) (w : World) : Calls Ybad.prog 49 #[.float .f64 a] w fun e w' => ∃ r k n, e = .returned (.tuple #[.float .f64 r, .int .i64 k]) ∧ w' = w.drewN n := by
  go_enter Ybad.func49, Ybad.ntmps49
  go_wp2_with (go_at_call 34; refine (abs_any _ _).mono ?_; rintro e w' ⟨r, rfl, rfl⟩)
  · go_ret2
    exact ⟨_, _, _, rfl, rfl⟩
  · go_ret2
    exact ⟨_, _, 0, rfl, (World.drewN_zero _).symm⟩

set_option maxRecDepth 100000 in
set_option maxHeartbeats 2000000 in
theorem ldexp_any (a : Nat) (k : Int) (w : World) : Calls Ybad.prog 46 #[.float .f64 a, .int .i64 k] w fun e w' => ∃ r n, e = .returned (.float .f64 r) ∧ w' = w.drewN n := by
  go_enter Ybad.func46, Ybad.ntmps46
  go_wp2_with (first | (go_at_call 42; refine (isInf_any _ _).mono ?_; rintro e w' ⟨r, rfl, rfl⟩) | (go_at_call 41; refine (isNaN_any _ _).mono ?_; rintro e w' ⟨r, rfl, rfl⟩) | (go_at_call 49; refine (normalize_any _ _).mono ?_; rintro e w' ⟨r, kk, nn, rfl, rfl⟩) | (go_at_call 36; refine (copysign_any _ _ _).mono ?_; rintro e w' ⟨r, rfl, rfl⟩) | (go_at_call 6; refine (inf_any _ _).mono ?_; rintro e w' ⟨r, rfl, rfl⟩))
  all_goals go_ret
  all_goals first | exact ⟨_, _, rfl, rfl⟩ | exact ⟨_, 0, rfl, (World.drewN_zero _).symm⟩

set_option maxRecDepth 100000 in
set_option maxHeartbeats 1000000 in
theorem Ldexp_any (a : Nat) (k : Int) (w : World) : Calls Ybad.prog 37 #[.float .f64 a, .int .i64 k] w fun e w' => ∃ r n, e = .returned (.float .f64 r) ∧ w' = w.drewN n := by
  go_enter Ybad.func37, Ybad.ntmps37
  go_wp2_with (go_at_call 46; refine (ldexp_any _ _ _).mono ?_; rintro e w' ⟨r, n, rfl, rfl⟩)
  go_ret
  exact ⟨_, _, rfl, rfl⟩
end Go.Proofs.YbulkdzeiDoor.C
