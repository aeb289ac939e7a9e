/-
  THE METHODS OF *dialQueue, by way of heap.Interface: what a call through the interface leads to.
-/
import Derived.Test.YbulkdzgmRows
import Derived.Test.YbulkdzgmKit
import Derived.Test.YbulkdzgmPick2
import Derived.BigQuiet
import Derived.Deep.DeepCutAuto
import Derived.Deep.CutBlock
namespace Go.Proofs.Ybulkdzgm
open Go Go.RowKit

def PathIs (name : String) (f : FuncId) (b : Bool) : Prop := ((Yba.prog.info? 63).map fun i => (i.methods.find? (·.name == name)).map fun m => (m.path.toList, m.func)) = some (some ([], some (f, b)))
theorem path_len : PathIs "Len" 48 false := by unfold PathIs; kernel_rfl
theorem path_less : PathIs "Less" 20 false := by unfold PathIs; kernel_rfl
theorem path_swap : PathIs "Swap" 49 false := by unfold PathIs; kernel_rfl
theorem path_push : PathIs "Push" 56 true := by unfold PathIs; kernel_rfl
theorem path_pop : PathIs "Pop" 55 true := by unfold PathIs; kernel_rfl

theorem path_parts {name : String} {f : FuncId} {b : Bool} (h : PathIs name f b) : ∃ i m, Yba.prog.info? 63 = some i ∧ i.methods.find? (·.name == name) = some m ∧ m.path.toList = [] ∧ m.func = some (f, b) := by
  unfold PathIs at h
  cases hi : Yba.prog.info? 63 with
  | none => rw [hi] at h; simp at h
  | some i =>
    rw [hi] at h
    simp only [Option.map_some, Option.some.injEq] at h
    cases hm : i.methods.find? (·.name == name) with
    | none => rw [hm] at h; simp at h
    | some m =>
      rw [hm] at h
      simp only [Option.map_some, Option.some.injEq, Prod.mk.injEq] at h
      exact ⟨i, m, rfl, hm, h.1, h.2⟩

theorem run_wrapchk (w : World) (p : Addr) (s : String) : (Builtin.ssaWrapNilChk_ #[63] 63 #[.pointer (some p), strVal "", strVal s]).run Yba.prog w = .ok (.pointer (some p)) w := rfl

theorem run_method_ptr (w : World) {name : String} {f : FuncId} (h : PathIs name f true) (v : Value) : (method 323 63 v name).run Yba.prog w = .ok (f, v) w := by
  obtain ⟨i, m, hi, hm, hp, hf⟩ := path_parts h
  have hu := run_underlying (P := Yba.prog) (w := w) Yba.underlying63
  have ht : (typeInfo 63).run Yba.prog w = .ok i w := by simp [typeInfo, hi]
  have hr : (receiverAt 63 (.val v) true (if m.path.isEmpty then some ((name.splitOn ".").getLastD name) else none)).run Yba.prog w = .ok v w := by
    unfold receiverAt
    simp only [Sem.run_bind, hu, Result.andThen_ok, Place.get, Sem.run_pure]
  rw [show (323 : Nat) = 322 + 1 from rfl, method]
  simp only [Sem.run_bind, ht, Result.andThen_ok, hm, hp, follow, Sem.run_pure, hf, hr]
theorem run_method_val (w : World) {name : String} {f : FuncId} (h : PathIs name f false) (p o : Nat) (a : Option Addr) (n c : Nat) (hc : w.cell? ⟨p, o, none⟩ = some (.slice a n c)) :
    (method 323 63 (.pointer (some ⟨p, o, none⟩)) name).run Yba.prog w = .ok (f, .slice a n c) w := by
  obtain ⟨i, m, hi, hm, hp, hf⟩ := path_parts h
  have hu := run_underlying (P := Yba.prog) (w := w) Yba.underlying63
  have ht : (typeInfo 63).run Yba.prog w = .ok i w := by simp [typeInfo, hi]
  have hl : (loadVar 35 ⟨p, o, none⟩).run Yba.prog w = .ok (.slice a n c) w := by
    go_simp
  have hr : (receiverAt 63 (.val (.pointer (some ⟨p, o, none⟩))) false (if m.path.isEmpty then some ((name.splitOn ".").getLastD name) else none)).run Yba.prog w = .ok (.slice a n c) w := by
    unfold receiverAt
    split
    · simp only [Sem.run_bind, hu, Result.andThen_ok, Place.get, Sem.run_pure, run_wrapchk, asAddr, hl]
    · simp only [Sem.run_bind, hu, Result.andThen_ok, Place.get, Sem.run_pure, asAddr, hl]
  rw [show (323 : Nat) = 322 + 1 from rfl, method]
  simp only [Sem.run_bind, ht, Result.andThen_ok, hm, hp, follow, Sem.run_pure, hf, hr]
end Go.Proofs.Ybulkdzgm
