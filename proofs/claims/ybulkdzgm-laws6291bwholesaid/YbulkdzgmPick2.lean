/-
  A DRAWN REGION IN TWO PHASES: 'hs', 'ts' as in wp_region_pick; then 'us': operations that read no memory (extracts, assigns of a call's tuple), taken in this order though others may stand ready.
-/
import Derived.Test.YbulkdzgmPick
namespace Go.Proofs.Ybulkdzgm
open Go
section
variable {P : Program} {ops : Array Oper} {Q : Exit → Act → World → Prop} {md : Region.Mode} {S : World → Prop} {ks : List Nat}

def wpTailL (P : Program) (ops : Array Oper) (Q : Exit → Act → World → Prop) (S : World → Prop) (ks : List Nat) (L : Act → World → Prop) : List Nat → Act → World → Prop
  | [], a, w => L a w
  | i :: is, a, w => wpOp P ops Q i (fun a' w' => (ks.contains i = true → S w') ∧ wpTailL P ops Q S ks L is a' w') a w
theorem wpTailL_nil {L : Act → World → Prop} {a : Act} {w : World} (h : L a w) : wpTailL P ops Q S ks L [] a w := h
/-- A step behind which S is shown anew. -/
theorem wpTailL_keep {L : Act → World → Prop} {l : List Oper} {i : Nat} {is : List Nat} {o : Oper} {a : Act} {w : World} (ho : l[i]? = some o) (hg : Region.wanted o (yielded l.toArray a.tmps) = true)
    (h : ∀ K : Act → World → Prop, Shut (∀ a w, S w → wpTailL P l.toArray Q S ks L is a w → K a w) → o.wp P a w K Q) : wpTailL P l.toArray Q S ks L (i :: is) a w := by
  unfold wpTailL wpOp
  simp only [List.getElem?_toArray, ho, hg, if_true]
  exact .inl (h _ (fun a w hS h => ⟨fun _ => hS, h⟩))
/-- A step behind which all of the head has come up. -/
theorem wpTailL_step {L : Act → World → Prop} {l : List Oper} {i : Nat} {is : List Nat} {o : Oper} {a : Act} {w : World} (ho : l[i]? = some o) (hk : ks.contains i = false) (hg : Region.wanted o (yielded l.toArray a.tmps) = true)
    (h : ∀ K : Act → World → Prop, Shut (∀ a w, wpTailL P l.toArray Q S ks L is a w → K a w) → o.wp P a w K Q) : wpTailL P l.toArray Q S ks L (i :: is) a w := by
  unfold wpTailL wpOp
  simp only [List.getElem?_toArray, ho, hg, if_true]
  exact .inl (h _ (fun a w h => ⟨fun hc => (by rw [hk] at hc; cases hc), h⟩))

theorem wpAnyK_weaken {S2 : World → Prop} {ks2 : List Nat} : ∀ (fuel : Nat) (listed : Array Bool) (a : Act) (w : World), (∀ i, i < ops.size → ks.contains i = true → listed.getD i false = true) → wpAnyK P md ops Q S2 ks2 fuel listed a w → wpAnyK P md ops Q S ks fuel listed a w
  | 0, _, _, _, _, h => h
  | fuel + 1, listed, _, _, hl, h => ⟨h.1, fun i hi => by
    obtain ⟨hun, o, ho, _⟩ := mem_ready.1 hi
    refine wpOp_mono (fun a' w' h' => ⟨fun hk => ?_, wpAnyK_weaken fuel _ a' w' (fun j hj hk => getD_set_true (hl j hj hk)) h'.2⟩) (h.2 i hi)
    have h1 := hl i (Array.getElem?_eq_some_iff.1 ho).1 hk
    rw [getD_both hun] at h1
    cases h1⟩

def seqP (md : Region.Mode) (ops : Array Oper) : List Nat → Array Bool → Option (Array Bool)
  | [], listed => some listed
  | k :: r, listed => if Region.ready md ops listed = [k] then seqP md ops r (listed.setIfInBounds k true) else none

theorem wpAnyK_of_tailL {L : Act → World → Prop} {listed2 : Array Bool} (fuel2 : Nat) (hL : ∀ a w, L a w → wpAnyK P md ops Q S ks fuel2 listed2 a w) : ∀ (ts : List Nat) (listed : Array Bool) (a : Act) (w : World), seqP md ops ts listed = some listed2 →
    wpTailL P ops Q S ks L ts a w → wpAnyK P md ops Q S ks (ts.length + fuel2) listed a w
  | [], listed, a, w, hB, h => by
    have : listed = listed2 := by simpa [seqP] using hB
    subst this
    simp only [List.length_nil, Nat.zero_add]
    exact hL a w h
  | k :: r, listed, a, w, hB, h => by
    unfold seqP at hB
    split at hB
    · rename_i hr
      rw [show (k :: r).length + fuel2 = (r.length + fuel2) + 1 by simp only [List.length_cons]; omega]
      refine ⟨fun h1 => (by rw [hr] at h1; cases h1), fun i hi => ?_⟩
      rw [hr] at hi
      have hik : i = k := by simpa using hi
      subst hik
      exact wpOp_mono (fun a' w' h' => ⟨h'.1, wpAnyK_of_tailL fuel2 hL r _ a' w' hB h'.2⟩) h
    · cases hB

theorem seqP_closed : ∀ (ts : List Nat) (listed listed2 : Array Bool), ClosedL md ops listed → seqP md ops ts listed = some listed2 → ClosedL md ops listed2
  | [], listed, listed2, h, hB => by
    have : listed = listed2 := by simpa [seqP] using hB
    exact this ▸ h
  | k :: r, listed, listed2, h, hB => by
    unfold seqP at hB
    split at hB
    · rename_i hr
      exact seqP_closed r _ _ (h.set (by rw [hr]; simp)) hB
    · cases hB
theorem takeB_closed : ∀ (hs : List Nat) (listed listed2 : Array Bool), ClosedL md ops listed → takeB md ops hs listed = some listed2 → ClosedL md ops listed2
  | [], listed, listed2, h, hB => by
    have : listed = listed2 := by simpa [takeB] using hB
    exact this ▸ h
  | k :: r, listed, listed2, h, hB => by
    unfold takeB at hB
    split at hB
    · rename_i hr
      simp only [Bool.and_eq_true] at hr
      exact takeB_closed r _ _ (h.set (by simpa using hr.1)) hB
    · cases hB

theorem wpAnyK_lexL (hsel : Region.noSelect ops = true) (fuel2 : Nat) {X : Act → Prop}
    (hQ : ∀ c a (d : Option Tmp) v w, Q (.panic c) (a.put d v) w → Q (.panic c) a w) {w : World} (hS : S w) :
    ∀ (hs : List Nat) (listed listed' : Array Bool) (a : Act), ClosedL md ops listed → takeB md ops hs listed = some listed' → (∀ i ∈ hs, ∀ j, j < ops.size → ks.contains j = true ∨ reachB md ops ops.size j i = true) →
    (∀ a', X a' → wpAnyK P md ops Q S ks fuel2 listed' a' w) → wpHead P ops S X hs a → wpAnyK P md ops Q S ks (hs.length + fuel2) listed a w
  | [], listed, listed', a, _, ht, _, hB, h => by
    have : listed = listed' := by simpa [takeB] using ht
    subst this
    simp only [List.length_nil, Nat.zero_add]
    exact hB a h
  | i :: is, listed, listed', a, inv, ht, hz, hB, h => by
    unfold takeB at ht
    split at ht
    · rename_i hc
      simp only [Bool.and_eq_true] at hc
      obtain ⟨o, v, ho, hy, hK⟩ := h
      have hr : i ∈ Region.ready md ops listed := by simpa using hc.1
      rw [show (i :: is).length + fuel2 = (is.length + fuel2) + 1 by simp only [List.length_cons]; omega]
      exact wpAnyK_first ho (Region.noSelect_spec hsel) (hz i (by simp)) (fun c a w => hQ c a _ _ w) (is.length + fuel2) listed a w inv (Region.free_spec ho hc.2) hr hy hS
        (wpAnyK_lexL hsel fuel2 hQ hS is _ listed' _ (inv.set hr) ht (fun i' hi' => hz i' (by simp [hi'])) hB hK)
    · cases ht

def planB2 (md : Region.Mode) (ops : Array Oper) (hs ts us ks : List Nat) : Bool :=
  Region.noSelect ops && decide (hs.length + (ts.length + us.length) = ops.size) && (hs.all fun i => (List.range ops.size).all fun j => ks.contains j || reachB md ops ops.size j i) &&
    match takeB md ops hs (Array.replicate ops.size false) with
    | some listed => (match seqP md ops ts listed with
      | some listed2 => ((List.range ops.size).all fun i => !ks.contains i || listed2.getD i false) && (match takeB md ops us listed2 with
        | some listed3 => (Region.ready md ops listed3).isEmpty
        | none => false)
      | none => false)
    | none => false

/-- **THE LAW.** -/
theorem wp_region_pick2 {id : Nat} {a : Act} {w : World} (hs ts us ks : List Nat) (S : World → Prop) (hmix : P.follows .mixedOrders = true) (hB : planB2 .any ops hs ts us ks = true)
    (hQ : ∀ c a (d : Option Tmp) v w, Q (.panic c) (a.put d v) w → Q (.panic c) a w) (hS : S w.drew)
    (h : wpHead P ops S (fun a' => wpTailL P ops Q S ks (fun a2 w2 => wpHead P ops (fun _ => True) (fun a3 => Q .normal a3 w2) us a2) ts a' w.drew) hs a) : (Code.region id ops true).wp P Q a w := by
  simp only [planB2, Bool.and_eq_true, decide_eq_true_eq, List.all_eq_true, Bool.or_eq_true, List.mem_range] at hB
  obtain ⟨⟨⟨hsel, hlen⟩, hz⟩, hB⟩ := hB
  have inv0 : ClosedL .any ops (Array.replicate ops.size false) := fun j oj _ hl => (by rw [getD_replicate_false] at hl; cases hl)
  split at hB
  · rename_i listed' ht
    split at hB
    · rename_i listed2 hs2
      rw [Bool.and_eq_true] at hB
      obtain ⟨hks, hB⟩ := hB
      simp only [List.all_eq_true, Bool.or_eq_true, List.mem_range, Bool.not_eq_true'] at hks
      split at hB
      · rename_i listed3 ht3
        have inv1 := takeB_closed _ _ _ inv0 ht
        have inv2 := seqP_closed _ _ _ inv1 hs2
        have hL : ∀ a2 w2, wpHead P ops (fun _ => True) (fun a3 => Q .normal a3 w2) us a2 → wpAnyK P .any ops Q S ks us.length listed2 a2 w2 := fun a2 w2 hh => by
          refine wpAnyK_weaken (S2 := fun _ => True) (ks2 := List.range ops.size) _ _ _ _ (fun i hi hk => ?_) ?_
          · rcases hks i hi with h1 | h1
            · rw [hk] at h1; cases h1
            · exact h1
          · have := wpAnyK_lexL (md := .any) (S := fun _ => True) (ks := List.range ops.size) hsel 0 (X := fun a3 => Q .normal a3 w2) hQ (w := w2) trivial us listed2 listed3 a2 inv2 ht3 (fun i _ j hj => .inl (by simpa using hj)) (fun a3 h3 => ⟨by simpa using hB, h3⟩) hh
            simpa using this
        have H := wpAnyK_lexL (md := .any) hsel (ts.length + us.length) hQ hS hs _ listed' a inv0 ht hz (fun a' h' => wpAnyK_of_tailL us.length hL ts listed' a' w.drew hs2 h') h
        rw [hlen] at H
        exact wp_region_any hmix (wpAny_of_K _ _ _ _ H)
      · cases hB
    · cases hB
  · cases hB
end
end Go.Proofs.Ybulkdzgm
