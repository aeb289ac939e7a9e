/-
  THE WALK of (*rules).nodeName: an identifier that no node has gives its forty digits; one that a node has gives some text (fmt's).
-/
import Derived.Test.YbulkdzhaFmtHex
import Derived.Stop.CallBack
import Derived.Stop.IfaceNil
import Derived.BigQuiet
namespace Go.Proofs.YbulkdzhaFmt
open Go Go.RowKit
open Go.Extern.Stop Go.Stop Go.Extern

@[go_sem] theorem Ybaf.call8 (args : Array Value) (w : World) : (callFunc 8 args).run Ybaf.prog w = ((FmtStop.sprintf #[9, 137] #[9] args).run Ybaf.prog w).andThen fun v w' => .ok (.value v) w' :=
  run_callFunc_extern Ybaf.func8 (by kernel_rfl) (by kernel_rfl) (by kernel_rfl) (by kernel_rfl) args w
@[go_sem] theorem Ybaf.guard (name : String) (w : World) : (FmtStop.guard name).run Ybaf.prog w = .ok () w := by kernel_rfl
@[go_sem] theorem Ybaf.fmt2 : FmtStop.printed? ⟨#[110, 111, 100, 101, 45, 37, 100]⟩ 1 = some [(0, 100, false)] := by kernel_rfl
@[go_sem] theorem Ybaf.fmt2r (w : World) : (FmtDoors.printed ⟨#[110, 111, 100, 101, 45, 37, 100]⟩ 1).run Ybaf.prog w = .ok [(0, 100, false)] w := by kernel_rfl
def Ybaf.shape3 : List UInt8 := [5, 3, 0, 0, 0, 0, 0, 0, 0, 105, 110, 116]
@[go_sem] theorem Ybaf.op3_100 (name : String) (x : Int) (w : World) : (FmtStop.operand name false 100 false (.iface 3 (.int .i64 x))).run Ybaf.prog w = .ok (Ybaf.shape3, Go.Extern.Stop.digits 8 (x % 2 ^ 64).toNat) w := by kernel_rfl

attribute [local go_sem ↓] loadAt25 storeAt25
attribute [local go_sem] run_load25 run_store25 run_eq25 guard25 has20_drew has20_drewN row20_drew row20_drewN soft_drew soft_drewN has20_alloc row20_alloc has20_new row20_new soft_alloc soft_new put20_new put20_drew

set_option maxRecDepth 100000 in
set_option maxHeartbeats 1000000 in
theorem nodeName_any (F : Interp) (p q r g n cp gn : Nat) (arr narr c : Array Value) (hc : IsId c) (hA : Ids arr n) (hn : n ≤ 4096) (hN : ∀ k, k < n → ∃ x : Int, narr[k]? = some (.int .i64 x))
    (w : World) (hF : F.answers w.tape) (hp : w.cell? ⟨p, 0, none⟩ = some (.pointer (some ⟨q, 0, none⟩))) (hq : w.cell? ⟨q, 1033, none⟩ = some (.pointer (some ⟨r, 0, none⟩)))
    (hr0 : w.cell? ⟨r, 0, none⟩ = some (.slice (some ⟨g, 0, none⟩) n cp)) (hr1 : w.cell? ⟨r, 1, none⟩ = some (.slice (some ⟨gn, 0, none⟩) n n))
    (hg : w.heap[g]? = some (.cells arr 25 (0, 0))) (hgn : w.heap[gn]? = some (.cells narr 3 (0, 0))) :
    Calls Ybaf.prog 5 #[.pointer (some ⟨p, 0, none⟩), .agg c] w fun e w' => ∃ s, e = .returned (.string s) ∧ ((∀ k, k < n → sameB (arr.extract (k * 20) (k * 20 + 20)) c = false) → s = strOfNums (hexNums c)) ∧ Below w.heap.size w w' := by
  have hcs := hc.1
  have HG := Hid.mk hg
  have HGN := Hid.mk hgn
  have HF := Hid.mk hF
  clear hg hgn hF
  go_enter Ybaf.func5, Ybaf.ntmps5
  go_wp2_with fail
  have hbA : Below w.heap.size w (w.alloc (.cells c 25)).drew := ((Below.refl _ _).alloc (Nat.le_refl _) _).drew
  refine wp_region_pick [0, 1, 2, 3, 4, 5, 6, 7, 8, 9, 10] [11, 12] [0, 1, 2, 3, 4, 5, 6, 7, 8, 9, 10]
    (fun w' => has20 w' w.heap.size 0 ∧ row20 w' w.heap.size 0 = c ∧ w'.cell? ⟨p, 0, none⟩ = some (.pointer (some ⟨q, 0, none⟩)) ∧ w'.cell? ⟨q, 1033, none⟩ = some (.pointer (some ⟨r, 0, none⟩)) ∧ w'.cell? ⟨r, 0, none⟩ = some (.slice (some ⟨g, 0, none⟩) n cp))
    (by kernel_rfl) (by kernel_rfl) (fun _ _ d _ _ h => by cases d <;> exact h)
    ⟨has20_new _ _ _ hcs, row20_new _ _ _ hcs, cell_below hbA hp, cell_below hbA hq, cell_below hbA hr0⟩ ?_
  iterate 11 (refine wpHead_cons (v := ?_) rfl (by rfl) ?_ ?_; rotate_left 1; (focus (rintro w0 ⟨s1, s2, s3, s4, s5⟩; go_simp; first | done | with_reducible rfl)); simp only [Act.put, List.setIfInBounds_toArray, List.set_cons_zero, List.set_cons_succ])
  refine wpHead_nil ?_
  refine wpTail_step rfl rfl (by rfl) (fun K hK => ?_)
  go_simp
  refine (owner_any g n cp arr c hc hA hn _ (heap_below hbA HG.out)).mono ?_
  rintro e w1 ⟨⟨k, hk0, hk1, rfl⟩, hb1⟩
  refine hK.out _ _ ?_
  clear hK K
  have hbC : Hid (w1.heap[w.heap.size]? = some (.cells c 25 (0, 0))) := heap_below hb1 (heap_alloc_new w _)
  have hbel : Below w.heap.size w w1 := hbA.trans (hb1.mono (by simp))
  have HF1 : Hid (F.answers w1.tape) := by have := hbel.tape; rw [this]; exact HF.out
  have e1 := cell_below hbel hp
  have e2 := cell_below hbel hq
  have e3 := cell_below hbel hr0
  have e4 := cell_below hbel hr1
  have e5 := whole_has hbC.out hc
  have e6 := whole_row hbC.out hc
  have HG1 : Hid (w1.heap[g]? = some (.cells arr 25 (0, 0))) := heap_below hbel HG.out
  have HGN1 : Hid (w1.heap[gn]? = some (.cells narr 3 (0, 0))) := heap_below hbel HGN.out
  clear hbA hb1 HG HGN HF hp hq hr0 hr1
  refine wpTail_list _ _ _ rfl ?_
  simp only [List.filterMap_cons, List.filterMap_nil, List.getElem?_cons_succ, List.getElem?_cons_zero]
  by_cases hkn : k < 0
  · have hkd : decide (0 ≤ k) = false := by simp; omega
    have hkd' : decide (k ≥ 0) = false := hkd
    go_wp2_with fail
    go_quiet (fail)
    go_wp2_with fail
    refine (string_any c hc _).mono ?_
    rintro e w2 ⟨rfl, hb2⟩
    go_wp2
    go_ret
    exact ⟨_, rfl, fun _ => rfl, (below_drewN hbel _).trans (hb2.mono hbel.size)⟩
  · obtain ⟨m, rfl⟩ : ∃ m : Nat, k = (m : Int) := ⟨k.toNat, by omega⟩
    have hmn : m < n := by omega
    have hI := hA.2 m hmn
    have hkd : decide (0 ≤ (m : Int)) = true := by simp
    have hkd' : decide ((m : Int) ≥ 0) = true := hkd
    have e7 := has20_of HG1.out hA hmn
    have e8 := row20_of (o := m * 20) HG1.out
    cases hsm : sameB (arr.extract (m * 20) (m * 20 + 20)) c
    · go_wp2_with fail
      go_quiet (fail)
      go_wp2_with fail
      refine (string_any c hc _).mono ?_
      rintro e w2 ⟨rfl, hb2⟩
      go_wp2
      go_ret
      exact ⟨_, rfl, fun _ => rfl, (below_drewN hbel _).trans (hb2.mono hbel.size)⟩
    · obtain ⟨x, hx⟩ := hN m hmn
      have e9 := cell_heap HGN1.out hx
      go_wp2_with fail
      go_quiet (fail)
      have hF' := answers_open HF1.out
      have hnewc : ∀ nq, ((w1.drewN nq).alloc (.cells #[.iface 3 (.int .i64 x)] 20)).cell? ⟨w1.heap.size, 0, none⟩ = some (.iface 3 (.int .i64 x)) := fun nq => cell_heap (heap_alloc_new (w1.drewN nq) _) rfl
      go_wp2_with fail
      go_ret
      exact ⟨_, rfl, fun h => (by rw [h m hmn] at hsm; cases hsm), ((below_drewN hbel _).alloc hbel.size _).drew⟩
end Go.Proofs.YbulkdzhaFmt
