/-
  LawS6287AWhole: the row and the tied card.
-/
import Derived.Test.YbulkdzeiDoorLawA
import Derived.Test.YbulkdzeiDoorCards
import Derived.Test.YbulkdzeiDoorTie
import Derived.ProofKit
import Derived.LaidMore
import Derived.OpenShut
import Derived.Stop.Joined
import Derived.Deep.Slices
import Derived.SevenTiedAt
namespace Go.Proofs.YbulkdzeiDoor.A
open Go Go.ChangeShapes Go.WideShapes Go.ChangeAt Go.WideMaps Go.WideElems Go.RowKit

theorem own : ownKnob Ybad.prog.godebug = none := by kernel_rfl
theorem laidOut : laidOutB Ybad.prog = true := by kernel_rfl
/-- The variable's name, off the row. -/
def vname : String := Rows.lawS6287AWholeRow.named.headD ""
theorem gU : Ybad.prog.globalNamed vname = some 0 := by kernel_rfl
theorem tU : (Ybad.prog.globals[0]?).map (·.type) = some 41 := by kernel_rfl
theorem cells24 : Ybad.prog.cellsOf 24 = 1 := by kernel_rfl
theorem cells41 : Ybad.prog.cellsOf 41 = 3 := by kernel_rfl

theorem float_of_trod {H : Type} {enc : TypeId × Value → H} {P : Program} {w : World} {base : Nat} {sp : Nat → Bool} {held : Bool} {fuel : Nat} {t : TypeId} {c : Value} {y : DataW H × List MemPlace}
    (ht : P.underlying t = some (.float .f64)) (h : DataW.trod enc P w base sp held fuel t [c] = some y) : ∃ n, c = .float .f64 n ∧ y = (.lit (.float .f64 n), []) ∧ n < 18446744073709551616 := by
  cases fuel with
  | zero => simp [DataW.trod] at h
  | succ fuel =>
    cases c <;> simp [DataW.trod, ht] at h
    rename_i k' n
    obtain ⟨⟨rfl, hw⟩, rfl⟩ := h
    exact ⟨n, rfl, rfl, by simpa [Lit.wf] using hw⟩

def cells3 : Array Value := #[.float .f64 9218868437227405312, .float .f64 9218868437227405312, .float .f64 9218868437227405312]
def datum3 {H : Type} : DataW H := .agg [.lit (.float .f64 9218868437227405312), .lit (.float .f64 9218868437227405312), .lit (.float .f64 9218868437227405312)]

theorem three {α : Type} {l : List α} (h : l.length = 3) : ∃ a b c, l = [a, b, c] := by
  match l, h with
  | [a, b, c], _ => exact ⟨a, b, c, rfl⟩

theorem cells_of_laid {W : World} (h : laidMetH Ybad.prog Rows.lawS6287AWholeRow.laid W) : W.var? Ybad.prog vname = some cells3 := by
  rw [MakeChecks.laidMetH_plain _ _ _ (by kernel_rfl)] at h
  obtain ⟨ps, ⟨g, t, cs, fuel, p, q, hg, ht, hvar, hd, _, _⟩, _⟩ := h
  obtain rfl := Option.some.inj (gU.symm.trans hg)
  obtain rfl := Option.some.inj (tU.symm.trans ht)
  refine hvar.trans ?_
  congr 1
  obtain ⟨l⟩ := cs
  obtain ⟨xs, m, rfl, hx, hlen, hxs, hf⟩ := DataW.trod_struct Ybad.underlying41 hd
  rw [cells41] at hlen
  obtain ⟨c0, c1, c2, rfl⟩ := three hlen
  obtain ⟨x0, x1, x2, rfl⟩ := three hxs
  have f0 : DataW.trod _ Ybad.prog W 0 _ false m 24 (([c0, c1, c2].drop 0).take (Ybad.prog.cellsOf 24)) = some x0 := hf 0 _ rfl
  have f1 : DataW.trod _ Ybad.prog W 0 _ false m 24 (([c0, c1, c2].drop 1).take (Ybad.prog.cellsOf 24)) = some x1 := hf 1 _ rfl
  have f2 : DataW.trod _ Ybad.prog W 0 _ false m 24 (([c0, c1, c2].drop 2).take (Ybad.prog.cellsOf 24)) = some x2 := hf 2 _ rfl
  rw [cells24] at f0 f1 f2
  obtain ⟨n0, rfl, rfl, _⟩ := float_of_trod Ybad.underlying24 f0
  obtain ⟨n1, rfl, rfl, _⟩ := float_of_trod Ybad.underlying24 f1
  obtain ⟨n2, rfl, rfl, _⟩ := float_of_trod Ybad.underlying24 f2
  simp [Rows.laid_example_com_almoner_almoner_unbound] at hx
  obtain ⟨⟨rfl, rfl, rfl⟩, _⟩ := hx
  rfl

theorem reads3 {H : Type} (enc : TypeId × Value → H) (W : World) (sp : Nat → Bool) : DataW.trod enc Ybad.prog W 0 sp true 3 41 cells3.toList = some (datum3, []) := by kernel_rfl

theorem addr_at {w : World} {a : Addr} {v : Value} (h : w.cell? a = some v) : ∃ b off, a = ⟨b, off, none⟩ := by
  obtain ⟨b, off, sp⟩ := a
  cases sp with
  | none => exact ⟨b, off, rfl⟩
  | some x =>
    unfold World.cell? at h
    split at h <;> simp at h

theorem add_at (b off i : Nat) : (⟨b, off, none⟩ : Addr).add i = ⟨b, off + i, none⟩ := by
  unfold Addr.add
  split
  · rename_i h; subst h; rfl
  · rfl

/-- A slice of floats that came in, opened. -/
theorem fs_of {H : Type} {enc : TypeId × Value → H} {W : World} {a : Option Addr} {len cap : Nat} {d : DataW H} {p : List MemPlace} {sp : Nat → Bool}
    (h : DataW.Trod enc Ybad.prog W 0 sp true 22 (.slice a len cap) d p) : ∃ C, IsFs W a len C ∧ len ≤ maxLen := by
  obtain ⟨fuel, hf⟩ := h
  rcases Deep.open_slice1 Ybad.underlying22 cells24 hf with ⟨hcs, _⟩ | ⟨x, len', cap', m, n, V, D, Pl, hcs, _, hl, hm, hmm, _, hV⟩
  · simp [Value.cells] at hcs
    obtain ⟨rfl, rfl, rfl⟩ := hcs
    exact ⟨fun _ => 0, fun i hi => absurd hi (Nat.not_lt_zero _), Nat.zero_le _⟩
  · simp [Value.cells] at hcs
    obtain ⟨rfl, rfl, rfl⟩ := hcs
    have hlm : len ≤ m := by rw [hmm]; split <;> omega
    refine ⟨fun i => match V i with | .float _ b => b | _ => 0, fun i hi => ?_, by omega⟩
    obtain ⟨hc0, _⟩ := hV 0 (by omega)
    obtain ⟨b, off, hb⟩ := addr_at hc0
    have hx : x = ⟨b, off, none⟩ := by simpa [Addr.add] using hb
    subst hx
    obtain ⟨hc, ht⟩ := hV i (by omega)
    obtain ⟨y, hy, _, hlt⟩ := float_of_trod Ybad.underlying24 ht
    rw [hy, add_at] at hc
    refine ⟨b, off, rfl, ?_, ?_⟩
    · simp only [hy]; exact hc
    · simp only [hy]; exact hlt

theorem var_below {W W' : World} (h : Below W.heap.size W W') (hv : W.var? Ybad.prog vname = some cells3) : W'.var? Ybad.prog vname = some cells3 := by
  have h0 : 0 < W.heap.size := World.block_lt_of_cell? W ⟨0, 0, none⟩ (World.var?_cell gU hv 0)
  unfold World.var? at hv ⊢
  rw [gU] at hv ⊢
  simp only [Option.bind_some] at hv ⊢
  rw [h.block 0 h0]
  exact hv

/-- The door's own heap meets the condition. -/
theorem door_met (os : Os) (args : Array Value) : laidMetH Ybad.prog Rows.lawS6287AWholeRow.laid ((World.doorLaid Ybad.prog 400 os).forCall (fun _ _ => 0) ⟨#[], args, []⟩).memory :=
  laidMetH_of_parts3 (fuel := 8) (laidMet_of_run' 8 (by kernel_rfl) (by kernel_rfl)) (by kernel_rfl) (by kernel_rfl)

set_option maxRecDepth 100000 in
theorem lifted (os : Os) (started : os.Started) (H : Type) (enc : TypeId × Value → H) :
    ReturnsInHanded {} Ybad.checked os 3 .any (fun w args => (Rows.lawS6287AWholeSpec.pre enc Ybad.prog Ybad.f3 [] false w args ∧ laidMetH Ybad.prog Rows.lawS6287AWholeRow.laid w) ∧ sizedMet enc Ybad.prog Ybad.f3 (OpenSpec.ofChange Rows.lawS6287AWholeSpec) false w args)
      (Rows.lawS6287AWholeSpec.post enc Ybad.prog Ybad.f3 false true false false) := by
  refine returnsInHanded_of_change_and (C := Ybad.checked) (X := fun w _ => laidMetH Ybad.prog Rows.lawS6287AWholeRow.laid w) (fun _ _ _ hh h => h.of_heap hh) own started (by kernel_rfl) Ybad.func3
    (ChangeSpec.witness_shaped (enc := enc) (C := Ybad.checked) (os := os) (X := fun w _ => laidMetH Ybad.prog Rows.lawS6287AWholeRow.laid w) false (World.doorLaid Ybad.prog 400 os) #[.slice none 0 0, .slice none 0 0, .int .i64 0] 8 rfl (World.shaped_of_RefB (by kernel_rfl) (by kernel_rfl)) (by kernel_rfl) (by kernel_rfl) (by kernel_rfl) (door_met os _)) ?_
  intro W base args ds gs before hval0 hW _ _ hL _
  have hval : ∀ (j : Nat) t v, Ybad.f3.params[j]? = some t → args[j]? = some v → Value.okWide Ybad.prog W .any base t v := hval0
  have hW' := hW
  obtain ⟨p, q, hA0, hV0, rfl, hfz, hnd⟩ := hW
  have hA : DataW.TrodAll enc Ybad.prog W 0 (fun _ => true) true Ybad.f3.params.toList args.toList ds p := hA0
  have hV : DataW.TrodVars enc Ybad.prog W (fun _ => true) [vname] gs q := hV0
  rw [Ybad.params3] at hA hval
  obtain ⟨v0, v1, v2, d0, d1, d2, p0, p1, p2, rfl, rfl, rfl, h0, h1, h2⟩ := trodAll_three hA
  obtain ⟨g, t, cs, fuel, d, p', rfl, hg, ht, hvar, hd, rfl⟩ := trodVars_one hV
  obtain rfl := Option.some.inj (gU.symm.trans hg)
  obtain rfl := Option.some.inj (tU.symm.trans ht)
  have hcs := cells_of_laid hL
  obtain rfl : cs = cells3 := Option.some.inj (hvar.symm.trans hcs)
  obtain ⟨rfl, rfl⟩ := DataW.Trod.unique (v := .agg cells3) ⟨fuel, hd⟩ ⟨3, reads3 enc W _⟩
  obtain ⟨a0, l0, c0, rfl⟩ := okWide_slice Ybad.underlying22 (hval 0 22 v0 rfl rfl)
  obtain ⟨a1, l1, c1, rfl⟩ := okWide_slice Ybad.underlying22 (hval 1 22 v1 rfl rfl)
  obtain ⟨r, rfl, rfl, rfl, w2⟩ := open_int Ybad.underlying3 (hval 2 3 v2 rfl rfl) h2
  have lt0 : ∀ x ∈ p0, x.block < W.heap.size := by obtain ⟨m, hm⟩ := h0; exact DataW.trod_lt m _ _ _ hm
  have lt1 : ∀ x ∈ p1, x.block < W.heap.size := by obtain ⟨m, hm⟩ := h1; exact DataW.trod_lt m _ _ _ hm
  obtain ⟨C, fC, m0⟩ := fs_of h0
  obtain ⟨M, fM, m1⟩ := fs_of h1
  clear hA0 hV0 hval0
  have hcalls : Calls Ybad.prog 3 #[.slice a0 l0 c0, .slice a1 l1 c1, .int .i64 r] W fun e w' => e = .returned (.bool true) ∧ Below W.heap.size W w' := by
    by_cases h : 1048576 < l0 ∨ 1048576 < l1 ∨ r < 0 ∨ 1099511627776 < r
    · exact law_early a0 a1 l0 c0 l1 c1 r W m0 m1 h
    · obtain ⟨R, rfl⟩ := Int.eq_ofNat_of_zero_le (show 0 ≤ r by omega)
      exact law_walk a0 a1 l0 c0 l1 c1 R C M W fC fM (by omega) (by omega) (by omega) (World.var?_cell gU hcs 0) (World.var?_cell gU hcs 1) (World.var?_cell gU hcs 2)
  refine hcalls.mono fun e W' ⟨he, bel⟩ => ?_
  subst he
  have hvars : ∀ sp : Nat → Bool, DataW.TrodVars enc Ybad.prog W' sp [vname] [datum3] (MemPlace.row ⟨0, 0, none⟩ cells3.size ++ [] ++ []) := fun sp =>
    ⟨0, 41, cells3, 3, [], [], gU, tU, var_below bel hcs, reads3 enc W' sp, rfl, rfl⟩
  exact ⟨_, rfl, _, _, _, [], _, _, hW', trodAll_mk1 (shut_bool Ybad.underlying4 _), trodAll_mk3 (Below.trod laidOut (by kernel_rfl) (of_decide_eq_true (by kernel_rfl)) h0 bel lt0) (Below.trod laidOut (by kernel_rfl) (of_decide_eq_true (by kernel_rfl)) h1 bel lt1) (shut_int Ybad.underlying3 w2), hvars _, bel.frame _, fun h => by cases h⟩

theorem row_holds : Rows.LawS6287AWholeSaid :=
  OpenClaim.holds_of_wide 3 Ybad.f3 rfl rfl rfl rfl rfl rfl rfl ⟨rfl, rfl, rfl, rfl, rfl⟩ rfl rfl rfl rfl rfl (by kernel_rfl) Ybad.func3 (by kernel_rfl)
    (of_decide_eq_true (by kernel_rfl)) (by unfold Func.isWrapper; first | (rw [if_pos (by decide +kernel)]; kernel_rfl) | (rw [if_neg (by decide +kernel)]; exact ⟨rfl, rfl⟩))
    (fun os started H enc _ => lifted os started H enc)

/-- THE STATEMENT: the tied card. -/
theorem card_holds : Rows.LawS6287AWholeCardSaid :=
  Claim7.holds_tied_plain_at .later [] [.called] true Rows.lawS6287AWholeCard.stood.harness false
    row_holds (fun _ h => by cases h) (by kernel_rfl) (fun _ h => by cases h) lawS6287AWhole_row_tie rfl ⟨rfl, rfl⟩ (by kernel_rfl) rfl
    (fun f fn hf hfn => by
      obtain rfl : f = 3 := Option.some.inj ((show Ybad.prog.funcNamed Rows.lawS6287AWholeRow.func = some 3 by kernel_rfl).symm.trans hf) |>.symm
      obtain rfl : fn = Ybad.f3 := (Option.some.inj (Ybad.func3.symm.trans hfn)).symm
      exact ⟨by kernel_rfl, fun j t ht => by
        rw [Ybad.params3] at ht
        have hm : t ∈ [22, 22, 3] := by simpa using Array.mem_of_getElem? ht
        have hall : ([22, 22, 3].all fun u => !Ybad.prog.wantsStandIn u) = true := by kernel_rfl
        exact (show Ybad.prog.wantsStandIn t = false by simpa using List.all_eq_true.1 hall t hm)⟩)
    (by kernel_rfl)
end Go.Proofs.YbulkdzeiDoor.A
