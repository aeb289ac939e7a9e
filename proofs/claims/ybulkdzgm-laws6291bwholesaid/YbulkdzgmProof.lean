/-
  THE ROW of LawS6291BWhole, proved.
-/
import Derived.Test.YbulkdzgmRows
import Derived.Test.YbulkdzgmLaw
import Derived.WalkKit
import Derived.ProofKit
import Derived.OpenShut
import Derived.ChangeOld
import Derived.ChangeSame
import Derived.Deep.Slices
import Derived.Below
namespace Go.Proofs.Ybulkdzgm.lawS6291BWhole
open Go Go.ChangeShapes Go.WideShapes Go.ChangeAt Go.RowKit Go.Deep

theorem own : ownKnob Yba.prog.godebug = none := by kernel_rfl
theorem laidOut : laidOutB Yba.prog = true := by kernel_rfl
theorem cells40 : Yba.prog.cellsOf 40 = 4 := by kernel_rfl
theorem cells2 : Yba.prog.cellsOf 2 = 1 := by kernel_rfl
theorem cells4 : Yba.prog.cellsOf 4 = 1 := by kernel_rfl

set_option maxRecDepth 100000 in
set_option maxHeartbeats 1000000 in
theorem law_big (a0 : Option Addr) (n cap : Nat) (w : World) (hl : 512 < n) :
    Calls Yba.prog 3 #[.slice a0 n cap] w fun e w' => e = .returned (.bool true) ∧ Below w.heap.size w w' := by
  have h1 : decide ((512 : Int) < (n : Int)) = true := by simp; omega
  have h2 : (512 : Int) < (n : Int) := by omega
  go_enter Yba.func3, Yba.ntmps3
  go_wp2_with fail
  go_ret
  exact ⟨rfl, Below.refl _ _⟩

/-- One item's four cells. -/
theorem item_of_trod {H : Type} {enc : TypeId × Value → H} {w : World} {base fuel : Nat} {spare : Nat → Bool} {held : Bool} {cs : List Value} {x : DataW H × List MemPlace}
    (h : DataW.trod enc Yba.prog w base spare held fuel 40 cs = some x) : ∃ (d : Int) (n a c : Bool), cs = [.int .i64 d, .bool n, .bool a, .bool c] ∧ (Lit.int .i64 d).wf = true := by
  obtain ⟨xs, m, _, _, hl, hlen, hf⟩ := DataW.trod_struct Yba.underlying40 h
  rw [cells40] at hl
  obtain ⟨c0, c1, c2, c3, rfl⟩ : ∃ c0 c1 c2 c3, cs = [c0, c1, c2, c3] := by
    rcases cs with _ | ⟨c0, _ | ⟨c1, _ | ⟨c2, _ | ⟨c3, _ | ⟨c4, cs⟩⟩⟩⟩⟩ <;> simp at hl
    exact ⟨_, _, _, _, rfl⟩
  obtain ⟨y0, y1, y2, y3, rfl⟩ : ∃ c0 c1 c2 c3, xs = [c0, c1, c2, c3] := by
    rcases xs with _ | ⟨c0, _ | ⟨c1, _ | ⟨c2, _ | ⟨c3, _ | ⟨c4, cs⟩⟩⟩⟩⟩ <;> simp at hlen
    exact ⟨_, _, _, _, rfl⟩
  have h0 : DataW.trod enc Yba.prog w base spare held m 2 (([c0, c1, c2, c3].drop 0).take (Yba.prog.cellsOf 2)) = some y0 := hf 0 _ rfl
  have h1 : DataW.trod enc Yba.prog w base spare held m 4 (([c0, c1, c2, c3].drop 1).take (Yba.prog.cellsOf 4)) = some y1 := hf 1 _ rfl
  have h2 : DataW.trod enc Yba.prog w base spare held m 4 (([c0, c1, c2, c3].drop 2).take (Yba.prog.cellsOf 4)) = some y2 := hf 2 _ rfl
  have h3 : DataW.trod enc Yba.prog w base spare held m 4 (([c0, c1, c2, c3].drop 3).take (Yba.prog.cellsOf 4)) = some y3 := hf 3 _ rfl
  rw [cells2] at h0
  rw [cells4] at h1 h2 h3
  obtain ⟨d, e0, _, hw⟩ := DataW.trod_int Yba.underlying2 h0
  obtain ⟨n, e1, _⟩ := DataW.trod_bool Yba.underlying4 h1
  obtain ⟨a, e2, _⟩ := DataW.trod_bool Yba.underlying4 h2
  obtain ⟨c, e3, _⟩ := DataW.trod_bool Yba.underlying4 h3
  simp at e0 e1 e2 e3
  subst e0 e1 e2 e3
  exact ⟨d, n, a, c, rfl, hw⟩

theorem spot_none {w : World} {a : Addr} {v : Value} (h : w.cell? a = some v) : a.spot = none := by
  unfold World.cell? at h
  split at h
  · split at h
    · cases h
    · rename_i h1; simpa using h1
  · cases h

theorem its_of {H : Type} {enc : TypeId × Value → H} {W : World} {a0 : Option Addr} {len cap : Nat} {d : DataW H} {ps : List MemPlace}
    (h : DataW.Trod enc Yba.prog W 0 (fun _ => true) true 22 (.slice a0 len cap) d ps) : ∃ X : Nat → Item, ItsAt W a0 len X ∧ (∀ i, (X i).st = .string (name i)) ∧ ∀ i, i < len → -9223372036854775808 ≤ (X i).due ∧ (X i).due ≤ 9223372036854775807 := by
  obtain ⟨fuel, hf⟩ := h
  have key : ∀ k, ∃ x : Item, x.st = .string (name k) ∧ (k < len → (∃ b o, a0 = some ⟨b, o, none⟩ ∧ W.cell? ⟨b, o + k * 4, none⟩ = some (.int .i64 x.due) ∧ W.cell? ⟨b, o + k * 4 + 1, none⟩ = some (.bool x.nam) ∧ W.cell? ⟨b, o + k * 4 + 2, none⟩ = some (.bool x.ans) ∧ W.cell? ⟨b, o + k * 4 + 3, none⟩ = some (.bool x.car)) ∧
      -9223372036854775808 ≤ x.due ∧ x.due ≤ 9223372036854775807) := fun k => by
    by_cases hk : k < len
    · rcases open_slice Yba.underlying22 hf with ⟨hcs, _⟩ | ⟨a, len', cap', m, n, D, Pl, hcs, _, hl, _, hm, _, hx⟩
      · simp [Value.cells] at hcs
        omega
      · simp [Value.cells] at hcs
        obtain ⟨rfl, rfl, rfl⟩ := hcs
        simp only [if_true] at hm
        rw [cells40] at hx
        obtain ⟨cs', h1, h2⟩ := hx k (by omega)
        obtain ⟨_, _, hc⟩ := World.cells?_some h1
        obtain ⟨d, n', an, ca, rfl, hw⟩ := item_of_trod h2
        have c0 := hc 0 (by omega)
        have c1 := hc 1 (by omega)
        have c2 := hc 2 (by omega)
        have c3 := hc 3 (by omega)
        obtain ⟨cz, z1, z2⟩ := hx 0 (by omega)
        obtain ⟨_, _, hz⟩ := World.cells?_some z1
        obtain ⟨dz, nz, az, ez, rfl, _⟩ := item_of_trod z2
        have hz0 : W.cell? a = some (.int .i64 dz) := by simpa [Addr.add] using hz 0 (by omega)
        have hsp : a.spot = none := spot_none hz0
        obtain ⟨b, o, sp⟩ := a
        simp only at hsp
        subst hsp
        have hadd : ∀ (x i : Nat), (⟨b, x, none⟩ : Addr).add i = ⟨b, x + i, none⟩ := fun x i => by
          unfold Addr.add
          split
          · simp
          · rfl
        rw [hadd, hadd] at c0 c1 c2 c3
        exact ⟨{ st := .string (name k), due := d, ans := an, car := ca, nam := n' }, rfl, fun _ => ⟨⟨b, o, rfl, c0, c1, c2, c3⟩, bounds_i64 hw⟩⟩
    · exact ⟨{ st := .string (name k), due := 0, ans := false, car := false, nam := false }, rfl, fun h => absurd h hk⟩
  refine ⟨fun k => Classical.choose (key k), ⟨fun i hi => ((Classical.choose_spec (key i)).2 hi).1⟩, fun i => (Classical.choose_spec (key i)).1, fun i hi => ((Classical.choose_spec (key i)).2 hi).2⟩

set_option maxRecDepth 100000 in
theorem lifted (os : Os) (started : os.Started) (H : Type) (enc : TypeId × Value → H) :
    ReturnsInHanded {} Yba.checked os 3 .any (Rows.lawS6291BWholeSpec.pre6 enc Yba.prog Yba.f3 Rows.lawS6291BWholeRow.domain false) (Rows.lawS6291BWholeSpec.post enc Yba.prog Yba.f3 false true false false) := by
  refine returnsInHanded_of_change (C := Yba.checked) own started (by kernel_rfl) Yba.func3
    (ChangeSpec.witness6 (enc := enc) (C := Yba.checked) false ⟨#[], #[.slice none 0 0], []⟩ 8 (by kernel_rfl) (by kernel_rfl) (by kernel_rfl) (by kernel_rfl)) ?_
  intro W base args ds gs before hval0 hW _ _
  have hval : ∀ (j : Nat) t v, Yba.f3.params[j]? = some t → args[j]? = some v → Value.okWide Yba.prog W .any base t v := hval0
  have hW' := hW
  obtain ⟨p, q, hA0, hV, rfl, _, _⟩ := hW
  have hA : DataW.TrodAll enc Yba.prog W 0 (fun _ => true) true Yba.f3.params.toList args.toList ds p := hA0
  rw [Yba.params3] at hA hval
  obtain ⟨v0, vs0, d0, ds0, p0, q0, hargs, rfl, rfl, h0, r0⟩ := trodAll_cons hA
  obtain ⟨rfl, rfl, rfl⟩ := trodAll_nil r0
  obtain rfl : args = #[v0] := by cases args; simp_all
  obtain ⟨rfl, rfl⟩ := trodVars_none hV
  obtain ⟨a0, len0, cap0, rfl⟩ := okWide_slice Yba.underlying22 (hval 0 22 v0 rfl rfl)
  have lt0 : ∀ x ∈ p0, x.block < W.heap.size := by obtain ⟨m, hm⟩ := h0; exact DataW.trod_lt m _ _ _ hm
  obtain ⟨X, hX, hst, hdue⟩ := its_of h0
  clear hA0 hval0
  have hcalls : Calls Yba.prog 3 #[.slice a0 len0 cap0] W fun e w' => e = .returned (.bool true) ∧ Below W.heap.size W w' := by
    by_cases h : 512 < len0
    · exact law_big a0 len0 cap0 W h
    · exact law_any len0 cap0 a0 X W (by omega) hX hst hdue
  refine hcalls.mono fun e W' ⟨he, bel⟩ => ?_
  subst he
  exact ⟨_, rfl, _, _, _, [], _, [], hW', trodAll_mk1 (shut_bool Yba.underlying4 _), (trodAll_cons_mk (Below.trod laidOut (by kernel_rfl) (of_decide_eq_true (by kernel_rfl)) h0 bel lt0) trodAll_mk0), rfl, bel.frame _, fun h => by cases h⟩

theorem over : Rows.lawS6291BWholeRow.holds Yba.pinned (OpenSpec.ofChange Rows.lawS6291BWholeSpec) :=
  OpenClaim.holds_of_wide 3 Yba.f3 rfl rfl rfl rfl rfl rfl rfl ⟨rfl, rfl, rfl, rfl, rfl⟩ rfl rfl rfl rfl rfl (by kernel_rfl) Yba.func3 (by kernel_rfl)
    (of_decide_eq_true (by kernel_rfl)) (by unfold Func.isWrapper; first | (rw [if_pos (by decide +kernel)]; kernel_rfl) | (rw [if_neg (by decide +kernel)]; exact ⟨rfl, rfl⟩))
    (fun os started H enc _ => lifted os started H enc)

/-- THE STATEMENT. -/
theorem proved : Rows.LawS6291BWholeSaid := over
#print axioms proved
end Go.Proofs.Ybulkdzgm.lawS6291BWhole
