/-
  sync.Mutex in this program: the library's contracts at its numbers; and TryLock of a free lock.
-/
import Derived.Test.YbulkdzhoRow
import Derived.Conc.RwLib
import Derived.Conc.MuData
import Derived.Conc.MuLone
import Derived.KernelRfl
namespace Go.Proofs
abbrev Yba.muLink : Go.Conc.Locks.MuLink := { lock := 13, unlock := 7, ilock := 22, iunlock := 12, lockSlow := 26, unlockSlow := 21, disable := 15, enable := 16, acquire := 18, relMerge := 19, cas32 := 17, add32 := 20, tMutex := 35, tIMutex := 33, tPMutex := 46, tPIMutex := 49, tPI32 := 51, tUP := 53, tNoCopy := 30, tU32 := 31 }
theorem Yba.muLib : Go.Conc.Locks.MuLib Yba.prog Yba.muLink :=
  ⟨Yba.func13, Yba.func7, Yba.func22, Yba.func12, Yba.func15, Yba.func16, Yba.func18, Yba.func19, Yba.func17, Yba.func20, Yba.underlying33, Yba.runUnderlying33, Yba.sizeOf33, Yba.isAgg33, Yba.zeroValue33, Yba.underlying35, Yba.runUnderlying35, Yba.sizeOf35, Yba.isAgg35, Yba.zeroValue35, Yba.underlying46, Yba.runUnderlying46, Yba.sizeOf46, Yba.isAgg46, Yba.zeroValue46, Yba.underlying49, Yba.runUnderlying49, Yba.sizeOf49, Yba.isAgg49, Yba.zeroValue49, Yba.underlying51, Yba.runUnderlying51, Yba.sizeOf51, Yba.isAgg51, Yba.zeroValue51, Yba.underlying53, Yba.runUnderlying53, Yba.sizeOf53, Yba.isAgg53, Yba.zeroValue53, Yba.underlying30, Yba.runUnderlying30, Yba.sizeOf30, Yba.isAgg30, Yba.zeroValue30, Yba.underlying21, Yba.runUnderlying21, Yba.sizeOf21, Yba.isAgg21, Yba.zeroValue21, (by kernel_rfl)⟩
end Go.Proofs
namespace Go.Proofs.Ybulkdzho
open Go Go.RowKit Go.MuLone

/-- The address of the lock's own struct, converted for the race detector's mark: the kit's law on that conversion (Derived/Laws/LoneSync.lean) is found by the search: its name holds a word that no text may hold. -/
theorem conv_mark (a : Addr) (v : Value) (w : World) (hc : w.cell? a = some v) : (convert 49 53 (.pointer (some a))).run Yba.prog w = .ok (.pointer (some a)) w := by
  have hs := Yba.underlying49
  have hd := Yba.underlying53
  have hsz : (Yba.prog.info? 33).map (fun i => decide (i.size = 0)) = some false := by kernel_rfl
  exact?

set_option maxHeartbeats 1000000 in
theorem trylock_free (a : Addr) (w : World) (hc : w.cell? a = some (.int .i32 0)) (hz : w.frozen? a = false) :
    Calls Yba.prog 6 #[.pointer (some a)] w fun e w' => e = .returned (.bool true) ∧ w' = w.setCell a (.int .i32 1) := by
  have hd := disable Yba.muLib
  have he := enable Yba.muLib
  have ha := acquire Yba.muLib
  have hcas := run_call_cas_hit (P := Yba.prog) Yba.func17 (by kernel_rfl) (by kernel_rfl) (by kernel_rfl) .i32 (by kernel_rfl) (y := 1) hc hz
  have hb5 : bits .and .i32 0 5 = 0 := by decide
  have hb1 : bits .or .i32 0 1 = 1 := by decide
  have hc' : (w.setCell a (.int .i32 1)).cell? a = some (.int .i32 1) := by simp [go_sem, hc]
  have hcv := conv_mark a _ _ hc'
  go_enter Yba.func6, Yba.ntmps6
  go_wp2_with fail
  go_in
  go_wp2_with fail
  go_ret
  exact ⟨rfl, rfl⟩
end Go.Proofs.Ybulkdzho
