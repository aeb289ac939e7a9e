/-
  LawS6287CWhole: the row and the tied card.
-/
import Derived.Test.YbulkdzeiDoorCLaw
import Derived.Test.YbulkdzeiDoorCards
import Derived.Test.YbulkdzeiDoorTie
import Derived.ProofKit
import Derived.LaidMore
import Derived.OpenShut
import Derived.Stop.Joined
import Derived.Deep.Slices
import Derived.SevenTiedAt
namespace Go.Proofs.YbulkdzeiDoor.C
open Go Go.ChangeShapes Go.WideShapes Go.ChangeAt Go.WideMaps Go.WideElems Go.RowKit

theorem own : ownKnob Ybad.prog.godebug = none := by kernel_rfl
theorem laidOut : laidOutB Ybad.prog = true := by kernel_rfl
/-- The table's name, off the row. -/
def vname : String := Rows.lawS6287CWholeRow.named.headD ""
theorem gU : Ybad.prog.globalNamed vname = some 2 := by kernel_rfl
theorem tU : (Ybad.prog.globals[2]?).map (·.type) = some 91 := by kernel_rfl
theorem cells5 : Ybad.prog.cellsOf 5 = 1 := by kernel_rfl
theorem cells54 : Ybad.prog.cellsOf 54 = 3 := by kernel_rfl

set_option maxRecDepth 100000 in
set_option maxHeartbeats 1000000 in
theorem law_big (bs ts lim : Int) (aa : Int) (a0 : Option Addr) (n cap : Nat) (w : World) (hl : 4096 < n) :
    Calls Ybad.prog 4 #[.int .i8 bs, .slice a0 n cap, .int .i8 ts, .int .u8 aa, .int .i32 lim] w fun e w' => e = .returned (.bool true) ∧ Below w.heap.size w w' := by
  have h1 : decide ((4096 : Int) < (n : Int)) = true := by simp; omega
  have h2 : (4096 : Int) < (n : Int) := by omega
  go_enter Ybad.func4, Ybad.ntmps4
  go_wp2_with fail
  go_ret
  exact ⟨rfl, Below.refl _ _⟩

/-- A small number of the table. -/
def okD {H : Type} : DataW H → Bool
  | .lit (.int .u8 n) => decide (0 ≤ n) && decide (n ≤ 63)
  | _ => false
def tabD {H : Type} : List (DataW H) := match (Rows.laid_math_bits_deBruijn64tab : DataW H) with
  | .agg l => l
  | _ => []
theorem tab_ok {H : Type} : (tabD (H := H)).all okD = true := by kernel_rfl
theorem tab_len {H : Type} : (tabD (H := H)).length = 64 := by kernel_rfl
theorem laid_agg {H : Type} : (Rows.laid_math_bits_deBruijn64tab : DataW H) = .agg tabD := rfl

theorem tab_of_laid {W : World} (h : laidMetH Ybad.prog Rows.lawS6287CWholeRow.laid W) : Tab W ∧ 2 < W.heap.size := by
  rw [MakeChecks.laidMetH_plain _ _ _ (by kernel_rfl)] at h
  obtain ⟨ps, ⟨g, t, cs, fuel, p, q, hg, ht, hvar, hd, _, _⟩, _⟩ := h
  obtain rfl := Option.some.inj (gU.symm.trans hg)
  obtain rfl := Option.some.inj (tU.symm.trans ht)
  obtain ⟨xs, m, rfl, hx, hlen, hxs, hf⟩ := DataW.trod_array Ybad.underlying91 hd
  rw [laid_agg] at hx
  have hx1 : tabD = xs.map (·.1) := by
    have := congrArg Prod.fst hx
    simpa using this
  have hcell : ∀ i, i < 64 → ∃ z : Int, W.cell? ⟨2, i, none⟩ = some (.int .u8 z) ∧ 0 ≤ z ∧ z ≤ 63 := fun i hi => by
    have h1 := hf i hi
    rw [cells5] at h1
    have hxi : i < xs.length := by omega
    rw [List.getElem?_eq_getElem hxi] at h1
    obtain ⟨n, hc, hy, hw⟩ := DataW.trod_int Ybad.underlying5 h1
    have h2 : (List.take 1 (List.drop (i * 1) cs.toList))[0]? = some (.int .u8 n) := by rw [hc]; rfl
    rw [List.getElem?_take_of_lt (by omega), List.getElem?_drop] at h2
    simp only [Nat.mul_one, Nat.add_zero] at h2
    have hcs : cs[i]? = some (.int .u8 n) := by simpa using h2
    have hd1 : (tabD (H := Unit))[i]? = some (.lit (.int .u8 n)) := by
      rw [hx1, List.getElem?_map, List.getElem?_eq_getElem hxi, hy]; rfl
    have hok := List.all_eq_true.1 (tab_ok (H := Unit)) _ (List.mem_of_getElem? hd1)
    simp only [okD, Bool.and_eq_true, decide_eq_true_eq] at hok
    exact ⟨n, (World.var?_cell gU hvar i).trans hcs, hok.1, hok.2⟩
  obtain ⟨z, hz, _⟩ := hcell 0 (by omega)
  exact ⟨hcell, World.block_lt_of_cell? W _ hz⟩

/-- One step's three cells. -/
theorem op_of_trod {H : Type} {enc : TypeId × Value → H} {w : World} {base fuel : Nat} {spare : Nat → Bool} {held : Bool} {cs : List Value} {x : DataW H × List MemPlace}
    (h : DataW.trod enc Ybad.prog w base spare held fuel 54 cs = some x) : ∃ (a b c : Nat), cs = [.int .u8 (a : Int), .int .u8 (b : Int), .int .u8 (c : Int)] ∧ a < 256 ∧ b < 256 ∧ c < 256 := by
  obtain ⟨xs, m, _, _, hl, hlen, hf⟩ := DataW.trod_struct Ybad.underlying54 h
  rw [cells54] at hl
  obtain ⟨c0, c1, c2, rfl⟩ : ∃ c0 c1 c2, cs = [c0, c1, c2] := by
    rcases cs with _ | ⟨c0, _ | ⟨c1, _ | ⟨c2, _ | ⟨c4, cs⟩⟩⟩⟩ <;> simp at hl
    exact ⟨_, _, _, rfl⟩
  obtain ⟨y0, y1, y2, rfl⟩ : ∃ c0 c1 c2, xs = [c0, c1, c2] := by
    rcases xs with _ | ⟨c0, _ | ⟨c1, _ | ⟨c2, _ | ⟨c4, cs⟩⟩⟩⟩ <;> simp at hlen
    exact ⟨_, _, _, rfl⟩
  have h0 : DataW.trod enc Ybad.prog w base spare held m 5 (([c0, c1, c2].drop 0).take (Ybad.prog.cellsOf 5)) = some y0 := hf 0 _ rfl
  have h1 : DataW.trod enc Ybad.prog w base spare held m 5 (([c0, c1, c2].drop 1).take (Ybad.prog.cellsOf 5)) = some y1 := hf 1 _ rfl
  have h2 : DataW.trod enc Ybad.prog w base spare held m 5 (([c0, c1, c2].drop 2).take (Ybad.prog.cellsOf 5)) = some y2 := hf 2 _ rfl
  rw [cells5] at h0 h1 h2
  obtain ⟨n0, e0, _, w0⟩ := DataW.trod_int Ybad.underlying5 h0
  obtain ⟨n1, e1, _, w1⟩ := DataW.trod_int Ybad.underlying5 h1
  obtain ⟨n2, e2, _, w2⟩ := DataW.trod_int Ybad.underlying5 h2
  simp at e0 e1 e2
  obtain ⟨a0, a1⟩ := bounds_u8 w0
  obtain ⟨b0, b1⟩ := bounds_u8 w1
  obtain ⟨d0, d1⟩ := bounds_u8 w2
  obtain ⟨a, rfl⟩ := Int.eq_ofNat_of_zero_le a0
  obtain ⟨b, rfl⟩ := Int.eq_ofNat_of_zero_le b0
  obtain ⟨c, rfl⟩ := Int.eq_ofNat_of_zero_le d0
  subst e0 e1 e2
  exact ⟨a, b, c, rfl, by omega, by omega, by omega⟩

theorem spot_none {w : World} {a : Addr} {v : Value} (h : w.cell? a = some v) : a.spot = none := by
  unfold World.cell? at h
  split at h
  · split at h
    · cases h
    · rename_i h1; simpa using h1
  · cases h

theorem ops_of {H : Type} {enc : TypeId × Value → H} {W : World} {a0 : Option Addr} {len cap : Nat} {d : DataW H} {ps : List MemPlace}
    (h : DataW.Trod enc Ybad.prog W 0 (fun _ => true) true 48 (.slice a0 len cap) d ps) : ∃ P X Y : Nat → Nat, OpsAt W a0 len P X Y := by
  obtain ⟨fuel, hf⟩ := h
  have key : ∀ k, ∃ x : Nat × Nat × Nat, k < len → ∃ b o, a0 = some ⟨b, o, none⟩ ∧ W.cell? ⟨b, o + k * 3, none⟩ = some (.int .u8 (x.1 : Int)) ∧ W.cell? ⟨b, o + k * 3 + 1, none⟩ = some (.int .u8 (x.2.1 : Int)) ∧ W.cell? ⟨b, o + k * 3 + 2, none⟩ = some (.int .u8 (x.2.2 : Int)) ∧ x.1 < 256 ∧ x.2.1 < 256 ∧ x.2.2 < 256 := fun k => by
    by_cases hk : k < len
    · rcases Deep.open_slice Ybad.underlying48 hf with ⟨hcs, _⟩ | ⟨a, len', cap', m, n, D, Pl, hcs, _, hl, _, hm, _, hx⟩
      · simp [Value.cells] at hcs
        omega
      · simp [Value.cells] at hcs
        obtain ⟨rfl, rfl, rfl⟩ := hcs
        simp only [if_true] at hm
        rw [cells54] at hx
        obtain ⟨cs', h1, h2⟩ := hx k (by omega)
        obtain ⟨_, _, hc⟩ := World.cells?_some h1
        obtain ⟨p, x, y, rfl, hp, hx', hy⟩ := op_of_trod h2
        have c0 := hc 0 (by omega)
        have c1 := hc 1 (by omega)
        have c2 := hc 2 (by omega)
        obtain ⟨cz, z1, z2⟩ := hx 0 (by omega)
        obtain ⟨_, _, hz⟩ := World.cells?_some z1
        obtain ⟨pz, xz, yz, rfl, _⟩ := op_of_trod z2
        have hz0 : W.cell? a = some (.int .u8 (pz : Int)) := by simpa [Addr.add] using hz 0 (by omega)
        have hsp : a.spot = none := spot_none hz0
        obtain ⟨b, o, sp⟩ := a
        simp only at hsp
        subst hsp
        have hadd : ∀ (x i : Nat), (⟨b, x, none⟩ : Addr).add i = ⟨b, x + i, none⟩ := fun x i => by
          unfold Addr.add
          split
          · simp
          · rfl
        rw [hadd, hadd] at c0 c1 c2
        exact ⟨(p, x, y), fun _ => ⟨b, o, rfl, c0, c1, c2, hp, hx', hy⟩⟩
    · exact ⟨(0, 0, 0), fun h => absurd h hk⟩
  exact ⟨fun k => (Classical.choose (key k)).1, fun k => (Classical.choose (key k)).2.1, fun k => (Classical.choose (key k)).2.2, ⟨fun i hi => Classical.choose_spec (key i) hi⟩⟩

/-- The door's own heap meets the condition. -/
theorem door_met (os : Os) (args : Array Value) : laidMetH Ybad.prog Rows.lawS6287CWholeRow.laid ((World.doorLaid Ybad.prog 400 os).forCall (fun _ _ => 0) ⟨#[], args, []⟩).memory :=
  laidMetH_of_parts3 (fuel := 8) (laidMet_of_run' 8 (by kernel_rfl) (by kernel_rfl)) (by kernel_rfl) (by kernel_rfl)

set_option maxRecDepth 100000 in
theorem lifted (os : Os) (started : os.Started) (H : Type) (enc : TypeId × Value → H) :
    ReturnsInHanded {} Ybad.checked os 4 .any (fun w args => (Rows.lawS6287CWholeSpec.pre enc Ybad.prog Ybad.f4 [] false w args ∧ laidMetH Ybad.prog Rows.lawS6287CWholeRow.laid w) ∧ sizedMet enc Ybad.prog Ybad.f4 (OpenSpec.ofChange Rows.lawS6287CWholeSpec) false w args)
      (Rows.lawS6287CWholeSpec.post enc Ybad.prog Ybad.f4 false true false false) := by
  refine returnsInHanded_of_change_and (C := Ybad.checked) (X := fun w _ => laidMetH Ybad.prog Rows.lawS6287CWholeRow.laid w) (fun _ _ _ hh h => h.of_heap hh) own started (by kernel_rfl) Ybad.func4
    (ChangeSpec.witness_shaped (enc := enc) (C := Ybad.checked) (os := os) (X := fun w _ => laidMetH Ybad.prog Rows.lawS6287CWholeRow.laid w) false (World.doorLaid Ybad.prog 400 os) #[.int .i8 0, .slice none 0 0, .int .i8 0, .int .u8 0, .int .i32 0] 8 rfl (World.shaped_of_RefB (by kernel_rfl) (by kernel_rfl)) (by kernel_rfl) (by kernel_rfl) (by kernel_rfl) (door_met os _)) ?_
  intro W base args ds gs before hval0 hW _ _ hL _
  have hval : ∀ (j : Nat) t v, Ybad.f4.params[j]? = some t → args[j]? = some v → Value.okWide Ybad.prog W .any base t v := hval0
  have hW' := hW
  obtain ⟨p, q, hA0, hV, rfl, hfz, hnd⟩ := hW
  have hA : DataW.TrodAll enc Ybad.prog W 0 (fun _ => true) true Ybad.f4.params.toList args.toList ds p := hA0
  rw [Ybad.params4] at hA hval
  obtain ⟨v0, vs0, d0, ds0, p0, q0, hargs, rfl, rfl, h0, r0⟩ := trodAll_cons hA
  obtain ⟨v1, vs1, d1, ds1, p1, q1, rfl, rfl, rfl, h1, r1⟩ := trodAll_cons r0
  obtain ⟨v2, vs2, d2, ds2, p2, q2, rfl, rfl, rfl, h2, r2⟩ := trodAll_cons r1
  obtain ⟨v3, vs3, d3, ds3, p3, q3, rfl, rfl, rfl, h3, r3⟩ := trodAll_cons r2
  obtain ⟨v4, vs4, d4, ds4, p4, q4, rfl, rfl, rfl, h4, r4⟩ := trodAll_cons r3
  obtain ⟨rfl, rfl, rfl⟩ := trodAll_nil r4
  obtain rfl : args = #[v0, v1, v2, v3, v4] := by cases args; simp_all
  obtain ⟨rfl, rfl⟩ := trodVars_none hV
  obtain ⟨x0, rfl, rfl, rfl, w0⟩ := open_int Ybad.underlying47 (hval 0 47 v0 rfl rfl) h0
  obtain ⟨a1, l1, c1, rfl⟩ := okWide_slice Ybad.underlying48 (hval 1 48 v1 rfl rfl)
  obtain ⟨x2, rfl, rfl, rfl, w2⟩ := open_int Ybad.underlying47 (hval 2 47 v2 rfl rfl) h2
  obtain ⟨x3, rfl, rfl, rfl, w3⟩ := open_int Ybad.underlying5 (hval 3 5 v3 rfl rfl) h3
  obtain ⟨x4, rfl, rfl, rfl, w4⟩ := open_int Ybad.underlying21 (hval 4 21 v4 rfl rfl) h4
  have lt1 : ∀ x ∈ p1, x.block < W.heap.size := by obtain ⟨m, hm⟩ := h1; exact DataW.trod_lt m _ _ _ hm
  obtain ⟨P, X, Y, hO⟩ := ops_of h1
  obtain ⟨htab, hsz⟩ := tab_of_laid hL
  have b0 : -128 ≤ x0 ∧ x0 ≤ 127 := by simp [Lit.wf, IntKind.min, IntKind.max, IntKind.signed, IntKind.bits] at w0; omega
  have b2 : -128 ≤ x2 ∧ x2 ≤ 127 := by simp [Lit.wf, IntKind.min, IntKind.max, IntKind.signed, IntKind.bits] at w2; omega
  have b4 : -2147483648 ≤ x4 ∧ x4 ≤ 2147483647 := by simp [Lit.wf, IntKind.min, IntKind.max, IntKind.signed, IntKind.bits] at w4; omega
  obtain ⟨b30, b31⟩ := bounds_u8 w3
  clear hA0 hval0
  have hcalls : Calls Ybad.prog 4 #[.int .i8 x0, .slice a1 l1 c1, .int .i8 x2, .int .u8 x3, .int .i32 x4] W fun e w' => e = .returned (.bool true) ∧ Below W.heap.size W w' := by
    by_cases h : 4096 < l1
    · exact law_big x0 x2 x4 x3 a1 l1 c1 W h
    · obtain ⟨aa, rfl⟩ := Int.eq_ofNat_of_zero_le b30
      exact law_any l1 c1 a1 P X Y x0 x2 x4 aa W (by omega) hO b0 b2 (by omega) b4 htab hsz
  refine hcalls.mono fun e W' ⟨he, bel⟩ => ?_
  subst he
  exact ⟨_, rfl, _, _, _, [], _, [], hW', trodAll_mk1 (shut_bool Ybad.underlying4 _), (trodAll_cons_mk (shut_int Ybad.underlying47 w0) (trodAll_cons_mk (Below.trod laidOut (by kernel_rfl) (of_decide_eq_true (by kernel_rfl)) h1 bel lt1) (trodAll_cons_mk (shut_int Ybad.underlying47 w2) (trodAll_cons_mk (shut_int Ybad.underlying5 w3) (trodAll_cons_mk (shut_int Ybad.underlying21 w4) trodAll_mk0))))), rfl, bel.frame _, fun h => by cases h⟩

theorem row_holds : Rows.LawS6287CWholeSaid :=
  OpenClaim.holds_of_wide 4 Ybad.f4 rfl rfl rfl rfl rfl rfl rfl ⟨rfl, rfl, rfl, rfl, rfl⟩ rfl rfl rfl rfl rfl (by kernel_rfl) Ybad.func4 (by kernel_rfl)
    (of_decide_eq_true (by kernel_rfl)) (by unfold Func.isWrapper; first | (rw [if_pos (by decide +kernel)]; kernel_rfl) | (rw [if_neg (by decide +kernel)]; exact ⟨rfl, rfl⟩))
    (fun os started H enc _ => lifted os started H enc)

/-- THE STATEMENT: the tied card. -/
theorem card_holds : Rows.LawS6287CWholeCardSaid :=
  Claim7.holds_tied_plain_at .later [] [.data] true Rows.lawS6287CWholeCard.stood.harness false
    row_holds (fun _ h => by cases h) (by kernel_rfl) (fun _ h => by cases h) lawS6287CWhole_row_tie rfl ⟨rfl, rfl⟩ (by kernel_rfl) rfl
    (fun f fn hf hfn => by
      obtain rfl : f = 4 := Option.some.inj ((show Ybad.prog.funcNamed Rows.lawS6287CWholeRow.func = some 4 by kernel_rfl).symm.trans hf) |>.symm
      obtain rfl : fn = Ybad.f4 := (Option.some.inj (Ybad.func4.symm.trans hfn)).symm
      exact ⟨by kernel_rfl, fun j t ht => by
        rw [Ybad.params4] at ht
        have hm : t ∈ [47, 48, 47, 5, 21] := by simpa using Array.mem_of_getElem? ht
        have hall : ([47, 48, 47, 5, 21].all fun u => !Ybad.prog.wantsStandIn u) = true := by kernel_rfl
        exact (show Ybad.prog.wantsStandIn t = false by simpa using List.all_eq_true.1 hall t hm)⟩)
    (by kernel_rfl)
end Go.Proofs.YbulkdzeiDoor.C
