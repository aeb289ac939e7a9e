/-
  IDENTIFIERS OUT OF NUMBERS: the walks of zzs6292aid, top, Compare.
-/
import Derived.Test.YbulkdzhaId
import Derived.Test.YbulkdzhaPick
import Derived.BigQuiet
import Derived.Deep.DeepCutAuto
import Derived.Deep.CutBlock
namespace Go.Proofs.Ybulkdzha
open Go Go.RowKit
attribute [local go_sem ↓] loadAt25 storeAt25
attribute [local go_sem] run_load25 run_store25 run_eq25 guard25 has20_drew has20_drewN row20_drew row20_drewN soft_drew soft_drewN has20_alloc row20_alloc has20_new row20_new soft_alloc soft_new put20_new put20_drew

theorem whole_has {w : World} {b : Nat} {c : Array Value} {t : TypeId} {fr : Nat × Nat} (h : w.heap[b]? = some (.cells c t fr)) (hc : IsId c) : has20 w b 0 := by unfold has20; rw [blk_of h, hc.1]; omega
theorem whole_row {w : World} {b : Nat} {c : Array Value} {t : TypeId} {fr : Nat × Nat} (h : w.heap[b]? = some (.cells c t fr)) (hc : IsId c) : row20 w b 0 = c := by
  unfold row20; rw [blk_of h]; simp [← hc.1]
/-- The identifier of a number. -/
def idv (v : Nat) : Array Value := #[.int .u8 0, .int .u8 0, .int .u8 0, .int .u8 0, .int .u8 0, .int .u8 0, .int .u8 ((v : Int) / 16777216), .int .u8 ((v : Int) / 65536 % 256), .int .u8 0, .int .u8 0, .int .u8 0, .int .u8 0, .int .u8 0, .int .u8 0, .int .u8 0, .int .u8 0, .int .u8 0, .int .u8 0,
  .int .u8 ((v : Int) / 256 % 256), .int .u8 ((v : Int) % 256)]
theorem idv_isId (v : Nat) (hv : v < 4294967296) : IsId (idv v) := by
  refine ⟨rfl, fun x hx => ?_⟩
  simp only [idv, List.mem_cons, List.not_mem_nil, or_false] at hx
  rcases hx with rfl | rfl | rfl | rfl | rfl | rfl | rfl | rfl | rfl | rfl | rfl | rfl | rfl | rfl | rfl | rfl | rfl | rfl | rfl | rfl <;> exact ⟨_, by omega, by omega, rfl⟩
theorem idv_same (v u : Nat) (hv : v < 4294967296) (hu : u < 4294967296) : sameB (idv v) (idv u) = decide (v = u) := by
  rw [Bool.eq_iff_iff]
  simp only [sameB, List.all_eq_true, List.mem_range, decide_eq_true_eq, beq_iff_eq]
  constructor
  · intro h
    have h6 := h 6 (by omega)
    have h7 := h 7 (by omega)
    have h18 := h 18 (by omega)
    have h19 := h 19 (by omega)
    simp [idv, intOf] at h6 h7 h18 h19
    omega
  · rintro rfl i hi
    rfl

theorem setRow_alloc_old (w : World) (c c' : Array Value) (t : TypeId) (o : Obj) : ((w.alloc (.cells c t)).alloc o).setRow w.heap.size c' = (w.alloc (.cells c' t)).alloc o := by
  simp only [World.setRow, World.alloc]
  congr 1
  apply Array.ext_getElem?
  intro i
  rw [Array.getElem?_modify]
  by_cases h : w.heap.size = i
  · subst h
    simp [Array.getElem?_push]
  · have h' : ¬ i = w.heap.size := fun e => h e.symm
    simp [h, h', Array.getElem?_push]

set_option maxHeartbeats 1000000 in
set_option maxRecDepth 100000 in
theorem id_any (v : Nat) (hv : v < 4294967296) (w : World) :
    Calls Yba.prog 4 #[.int .u32 v] w fun e w' => e = .returned (.agg (idv v)) ∧ Below w.heap.size w w' := by
  have hid := idv_isId v hv
  have hld : ∀ A : Obj, (ld25 (.pointer (some ⟨w.heap.size + 1, 0, none⟩))).run Yba.prog ((w.alloc A).alloc (.cells (idv v) 30)) = .ok (.agg (idv v)) ((w.alloc A).alloc (.cells (idv v) 30)) := fun A => by
    have h := heap_alloc2 w A (.cells (idv v) 30)
    rw [run_load25 _ _ _ (whole_has h hid), whole_row h hid]
  have hst : ∀ z : Array Value, z.size = 20 → (st25 (.pointer (some ⟨w.heap.size, 0, none⟩)) (.agg (idv v))).run Yba.prog ((w.alloc (.cells z 30)).alloc (.cells (idv v) 30)) = .ok () ((w.alloc (.cells (idv v) 30)).alloc (.cells (idv v) 30)) := fun z hz => by
    show (Instr.storeAt 30 _ _).run Yba.prog _ = _
    have h1 := run_storeVar_row (P := Yba.prog) ((w.alloc (.cells z 30)).alloc (.cells (idv v) 30)) w.heap.size 30 30 z (idv v) (heap_alloc1 _ _ _) info25 (by rw [hz]; rfl) hid.one
    rw [setRow_alloc_old] at h1
    simp only [Instr.storeAt, Instr.sureAddr, Sem.run_bind, Sem.run_pure, Result.andThen_ok, h1]
  have hres : ((w.alloc (.cells (idv v) 30)).alloc (.cells (idv v) 30)).heap[w.heap.size]? = some (.cells (idv v) 30 (0, 0)) := heap_alloc1 _ _ _
  simp only [idv] at hld hst
  go_enter Yba.func4, Yba.ntmps4
  go_wp2_with fail
  refine bodyPost_ret (v := .agg (idv v)) ?_ rfl ⟨rfl, ((Below.refl _ _).alloc (Nat.le_refl _) _).alloc (by simp) _⟩
  have hl := run_loadVar_row (P := Yba.prog) _ w.heap.size 30 30 (idv v) (0, 0) _ hres Yba.underlying30 rfl info25
  simp only [idv] at hl
  simp [results, Yba.results4, hl, idv, asAddr]
end Go.Proofs.Ybulkdzha
