/-
  THE ROW AND THE TOLD CARD of LawS6292BPart, proved.
-/
import Derived.Test.YbulkdzhaFmtCards
import Derived.Test.YbulkdzhaFmtLaw
import Derived.ProofKit
import Derived.ChangeSlices
import Derived.ChangeSame
import Derived.ChangeMaps5
import Derived.JoinedOf
import Derived.Carry
import Derived.Stop.JoinedAt
import Derived.Stop.Texts
import Derived.Stop.JoinedTold
import Derived.SizedLaws
import Derived.Deep.Slices
import Derived.SevenToldRow
import Derived.OpenShut
namespace Go.Proofs.YbulkdzhaFmt
open Go.ChangeShapes Go.WideShapes Go.ChangeAt Go.RowKit Go.Kit Go.Deep
open Go.Extern.Stop Go.Stop Go.Extern

theorem Ybaf.own : ownKnob Ybaf.prog.godebug = none := by kernel_rfl
theorem Ybaf.laidOut : laidOutB Ybaf.pinned.checked.prog = true := by kernel_rfl
theorem Ybaf.cells25 : Ybaf.prog.cellsOf 25 = 20 := by kernel_rfl
theorem Ybaf.cells3 : Ybaf.prog.cellsOf 3 = 1 := by kernel_rfl
theorem Ybaf.stops : Ybaf.pinned.checked.prog.stops = ["fmt.Sprintf"] := by kernel_rfl
theorem Ybaf.stopKnobs : Ybaf.pinned.checked.prog.stopKnobs = [] := by kernel_rfl
theorem Ybaf.quiet (os : Os) : Stop.quiet Ybaf.pinned.checked.prog os := by
  intro k hk
  rw [Ybaf.stopKnobs] at hk
  cases hk

set_option maxRecDepth 100000 in
set_option maxHeartbeats 1000000 in
theorem law_big (a0 b0 : Option Addr) (n cp m cm : Nat) (c : Array Value) (sel : Int) (hn1 : 4096 < n) (w : World) :
    Calls Ybaf.prog 3 #[.slice a0 n cp, .slice b0 m cm, .agg c, .int .u8 sel] w fun e w' => e = .returned (.bool true) ∧ Below w.heap.size w w' := by
  have hn : decide ((4096 : Int) < (n : Int)) = true := by simp; omega
  have hn' : (4096 : Int) < (n : Int) := by omega
  go_enter Ybaf.func3, Ybaf.ntmps3
  go_wp2
  go_ret
  exact ⟨rfl, (Below.refl _ _).alloc (Nat.le_refl _) _⟩

theorem id_of_trod {H : Type} {enc : TypeId × Value → H} {w : World} {base fuel : Nat} {spare : Nat → Bool} {held : Bool} {cs : List Value} {x : DataW H × List MemPlace}
    (h : DataW.trod enc Ybaf.prog w base spare held fuel 25 cs = some x) : IsId cs.toArray := by
  obtain ⟨xs, m, _, _, hl, hxs, he⟩ := DataW.trod_array Ybaf.underlying25 h
  rw [Ybaf.cells25] at hl
  refine ⟨by simpa using hl, fun v hv => ?_⟩
  obtain ⟨i, hi, rfl⟩ := List.getElem_of_mem hv
  have hi' : i < 20 := by simpa [hl] using hi
  have h1 := he i hi'
  rw [cells5, List.getElem?_eq_getElem (by omega)] at h1
  obtain ⟨n, hc, _, hw⟩ := DataW.trod_int Ybaf.underlying5 h1
  obtain ⟨b0, b1⟩ := bounds_u8 hw
  refine ⟨n, b0, b1, ?_⟩
  have : (List.take 1 (List.drop (i * 1) cs))[0]? = some (.int .u8 n) := by rw [hc]; rfl
  rw [List.getElem?_take_of_lt (by omega), List.getElem?_drop] at this
  simp only [Nat.mul_one, Nat.add_zero] at this
  have hi2 : i < cs.length := by omega
  rw [List.getElem?_eq_getElem hi2] at this
  simpa using this

theorem raw_of {H : Type} {enc : TypeId × Value → H} {W : World} {a0 : Option Addr} {len cap : Nat} {d : DataW H} {ps : List MemPlace}
    (h : DataW.Trod enc Ybaf.prog W 0 (fun _ => true) true 22 (.slice a0 len cap) d ps) : ∀ k, k < len → ∃ a c, a0 = some a ∧ IsId c ∧ At20 W (a.add (k * 20)) c := by
  obtain ⟨fuel, hf⟩ := h
  intro k hk
  rcases open_slice Ybaf.underlying22 hf with ⟨hcs, _⟩ | ⟨a, len', cap', m, n, D, Pl, hcs, _, hl, _, hm, _, hx⟩
  · simp [Value.cells] at hcs
    omega
  · simp [Value.cells] at hcs
    obtain ⟨rfl, rfl, rfl⟩ := hcs
    simp only [if_true] at hm
    obtain ⟨cs', h1, h2⟩ := hx k (by omega)
    rw [Ybaf.cells25] at h1
    obtain ⟨_, hlen, hc⟩ := World.cells?_some h1
    exact ⟨a, cs'.toArray, rfl, id_of_trod h2, by simpa using hlen, fun j hj => by simpa using hc j hj⟩

theorem nums_of {H : Type} {enc : TypeId × Value → H} {W : World} {a0 : Option Addr} {len cap : Nat} {d : DataW H} {ps : List MemPlace}
    (h : DataW.Trod enc Ybaf.prog W 0 (fun _ => true) true 23 (.slice a0 len cap) d ps) : ∀ k, k < len → ∃ a x, a0 = some a ∧ W.cell? (a.add k) = some (.int .i64 x) := by
  obtain ⟨fuel, hf⟩ := h
  intro k hk
  rcases open_ints Ybaf.underlying23 Ybaf.underlying3 Ybaf.cells3 hf with ⟨hcs, _⟩ | ⟨a, len', cap', zs, hcs, _, hl, _, hz, _, hcell, _⟩
  · simp [Value.cells] at hcs
    omega
  · simp [Value.cells] at hcs
    obtain ⟨rfl, rfl, rfl⟩ := hcs
    simp only [if_true] at hz
    exact ⟨a, _, rfl, hcell k (by omega)⟩

set_option maxRecDepth 100000 in
theorem b_lifted (os : Os) (started : os.Started) (H : Type) (enc : TypeId × Value → H) :
    ReturnsInTold none {} Ybaf.checked os 3 .any Input.okWide ((OpenSpec.ofChange Rows.lawS6292BPartSpec).preRow enc Ybaf.prog Ybaf.f3 [] false []) (fun F => ((OpenSpec.ofChange Rows.lawS6292BPartSpec).at F).post enc Ybaf.prog Ybaf.f3 false true false false) (aloneAtReturn Ybaf.prog) nothingAlways := by
  refine returnsInTold_of_row (C := Ybaf.checked) (s := OpenSpec.ofChange Rows.lawS6292BPartSpec) (by kernel_rfl) Ybaf.own started (by kernel_rfl) Ybaf.func3
    (OpenSpec.witness_stopped (enc := enc) (C := Ybaf.checked) false ⟨#[], #[.slice none 0 0, .slice none 0 0, .agg (Array.replicate 20 (.int .u8 0)), .int .u8 0], []⟩ 8 (by kernel_rfl) (by kernel_rfl) (by kernel_rfl) (by kernel_rfl)) ?_
  intro F W base args ds gs before _ hF hval0 hW _ _ hsz _ _
  have hval : ∀ (j : Nat) t v, Ybaf.f3.params[j]? = some t → args[j]? = some v → Value.okWide Ybaf.prog W .any base t v := hval0
  have hW' := hW
  obtain ⟨p, q, hA0, hV, rfl, _, _⟩ := hW
  have hA : DataW.TrodAll enc Ybaf.prog W 0 (fun _ => true) true Ybaf.f3.params.toList args.toList ds p := hA0
  rw [Ybaf.params3] at hA hval
  obtain ⟨v0, v1, v2, v3, d0, d1, d2, d3, p0, p1, p2, p3, rfl, rfl, rfl, h0, h1, h2, h3⟩ := trodAll_four hA
  obtain ⟨rfl, rfl⟩ := trodVars_none hV
  obtain ⟨a0, l0, c0, rfl⟩ := okWide_slice Ybaf.underlying22 (hval 0 22 v0 rfl rfl)
  obtain ⟨a1, l1, c1, rfl⟩ := okWide_slice Ybaf.underlying23 (hval 1 23 v1 rfl rfl)
  obtain ⟨c, rfl, _⟩ : ∃ cs, v2 = .agg cs ∧ cs.size = Ybaf.prog.cellsOf 25 ∧ Row.okWide Ybaf.prog W .any base 25 cs := by
    have := hval 2 25 v2 rfl rfl
    simpa [Value.okWide, Ybaf.underlying25] using this
  obtain ⟨r, rfl, rfl, rfl, w3⟩ := open_int Ybaf.underlying5 (hval 3 5 v3 rfl rfl) h3
  have lt0 : ∀ x ∈ p0, x.block < W.heap.size := by obtain ⟨m, hm⟩ := h0; exact DataW.trod_lt m _ _ _ hm
  have lt1 : ∀ x ∈ p1, x.block < W.heap.size := by obtain ⟨m, hm⟩ := h1; exact DataW.trod_lt m _ _ _ hm
  have lt2 : ∀ x ∈ p2, x.block < W.heap.size := by obtain ⟨m, hm⟩ := h2; exact DataW.trod_lt m _ _ _ hm
  have hc : IsId c := by obtain ⟨m, hm⟩ := h2; exact id_of_trod hm
  obtain ⟨r0, r1⟩ := bounds_u8 w3
  clear hA0 hval0
  have hcalls : Calls Ybaf.prog 3 #[.slice a0 l0 c0, .slice a1 l1 c1, .agg c, .int .u8 r] W fun e w' => e = .returned (.bool true) ∧ Below W.heap.size W w' := by
    by_cases h : 4096 < l0
    · exact law_big a0 a1 l0 c0 l1 c1 c r h W
    · exact law_any F.told a0 a1 l0 c0 l1 c1 c r hc r0 r1 (by omega) W hF (raw_of h0) (nums_of h1)
  refine hcalls.mono fun e W' ⟨he, bel⟩ => ?_
  subst he
  exact ⟨_, rfl, _, _, _, [], _, [], hW', trodAll_mk1 (shut_bool Ybaf.underlying4 _), trodAll_mk4 (Below.trod Ybaf.laidOut (by kernel_rfl) (of_decide_eq_true (by kernel_rfl)) h0 bel lt0) (Below.trod Ybaf.laidOut (by kernel_rfl) (of_decide_eq_true (by kernel_rfl)) h1 bel lt1) (Below.trod Ybaf.laidOut (by kernel_rfl) (of_decide_eq_true (by kernel_rfl)) h2 bel lt2) (shut_int Ybaf.underlying5 w3), rfl, bel.frame _, fun h => by cases h⟩

/-- THE STATEMENT: the told card. -/
theorem card_holds : Rows.LawS6292BPartToldSaid :=
  Claim7.holds_of_told_any 3 Ybaf.f3 "fmt.Sprintf" [] [] Rows.lawS6292BPartCard.stood.harness false false (by kernel_rfl) rfl rfl rfl Ybaf.laidOut (by kernel_rfl) rfl ⟨rfl, rfl, rfl, rfl, rfl, rfl, rfl⟩ rfl rfl (by kernel_rfl) (by kernel_rfl) Ybaf.func3 (by kernel_rfl)
    (of_decide_eq_true (by kernel_rfl)) (by unfold Func.isWrapper; first | (rw [if_pos (by decide +kernel)]; kernel_rfl) | (rw [if_neg (by decide +kernel)]; exact ⟨rfl, rfl⟩)) Ybaf.stops.symm rfl Ybaf.stopKnobs.symm (by kernel_rfl)
    (by kernel_rfl) (by kernel_rfl) (by kernel_rfl) (by kernel_rfl) (by kernel_rfl) (by kernel_rfl) (by kernel_rfl) (by kernel_rfl) (by kernel_rfl) rfl (by kernel_rfl) rfl rfl
    rfl rfl
    rfl (by kernel_rfl) (by kernel_rfl) (by kernel_rfl) (by decide) (by kernel_rfl)
    (OpenClaim.moreEntering_of (by kernel_rfl) (by kernel_rfl) (by kernel_rfl) (by kernel_rfl) (by kernel_rfl) (by kernel_rfl) (by kernel_rfl) (by kernel_rfl) (by kernel_rfl) (by kernel_rfl))
    ⟨_, WideRow.started_initial, Ybaf.quiet _⟩
    (fun os started _ H enc _ => b_lifted os started H enc)
#print axioms card_holds
end Go.Proofs.YbulkdzhaFmt
