/-
  A DRAWN REGION IN WHICH ONE OPERATION x MAY COME UP AT ANY PLACE AMONG 'ps' (the buildSlice of a second append): 'hs' as in wp_region_pick; then x somewhere among ps; then 'rest' in its forced order.
-/
import Derived.Test.YbulkdzeiDoorCPick
namespace Go.Proofs.YbulkdzeiDoor.C
open Go
section
variable {P : Program} {ops : Array Oper} {Q : Exit → Act → World → Prop} {md : Region.Mode} {S : World → Prop} {ks : List Nat}

def wpIns (P : Program) (ops : Array Oper) (Q : Exit → Act → World → Prop) (S : World → Prop) (ks : List Nat) (x : Nat) (rest : List Nat) : List Nat → Act → World → Prop
  | [], a, w => wpTail P ops Q S ks (x :: rest) a w
  | p :: ps, a, w => wpTail P ops Q S ks (x :: p :: (ps ++ rest)) a w ∧ wpOp P ops Q p (fun a' w' => (ks.contains p = true → S w') ∧ wpIns P ops Q S ks x rest ps a' w') a w

theorem wpIns_nil {x : Nat} {rest : List Nat} {a : Act} {w : World} (h : wpTail P ops Q S ks (x :: rest) a w) : wpIns P ops Q S ks x rest [] a w := h
theorem wpIns_keep {l : List Oper} {x p : Nat} {ps rest : List Nat} {o : Oper} {a : Act} {w : World} (h0 : wpTail P l.toArray Q S ks (x :: p :: (ps ++ rest)) a w) (ho : l[p]? = some o) (hg : Region.wanted o (yielded l.toArray a.tmps) = true)
    (h : ∀ K : Act → World → Prop, Shut (∀ a w, S w → wpIns P l.toArray Q S ks x rest ps a w → K a w) → o.wp P a w K Q) : wpIns P l.toArray Q S ks x rest (p :: ps) a w := by
  refine ⟨h0, ?_⟩
  unfold wpOp
  simp only [List.getElem?_toArray, ho, hg, if_true]
  exact .inl (h _ (fun a w hS h => ⟨fun _ => hS, h⟩))

def insB (md : Region.Mode) (ops : Array Oper) (x : Nat) (rest : List Nat) : List Nat → Array Bool → Bool
  | [], listed => seqL md ops (x :: rest) listed
  | p :: ps, listed => ((Region.ready md ops listed).all fun i => i == x || i == p) && !(Region.ready md ops listed).isEmpty && seqL md ops (p :: (ps ++ rest)) (listed.setIfInBounds x true) && insB md ops x rest ps (listed.setIfInBounds p true)

theorem wpAnyK_of_ins {x : Nat} {rest : List Nat} : ∀ (ps : List Nat) (listed : Array Bool) (a : Act) (w : World), insB md ops x rest ps listed = true → wpIns P ops Q S ks x rest ps a w → wpAnyK P md ops Q S ks (ps.length + (rest.length + 1)) listed a w
  | [], listed, a, w, hB, h => by
    have := wpAnyK_of_tail (x :: rest) listed a w hB h
    simpa using this
  | p :: ps, listed, a, w, hB, h => by
    simp only [insB, Bool.and_eq_true, List.all_eq_true, Bool.or_eq_true, beq_iff_eq, Bool.not_eq_true'] at hB
    obtain ⟨⟨⟨hr, hne⟩, hx⟩, hp⟩ := hB
    obtain ⟨h1, h2⟩ := h
    rw [show (p :: ps).length + (rest.length + 1) = (ps.length + (rest.length + 1)) + 1 by simp only [List.length_cons]; omega]
    refine ⟨fun h0 => (by rw [h0] at hne; simp at hne), fun i hi => ?_⟩
    by_cases hix : i = x
    · subst hix
      refine wpOp_mono (fun a' w' h' => ⟨h'.1, ?_⟩) h1
      have := wpAnyK_of_tail (p :: (ps ++ rest)) _ a' w' hx h'.2
      rw [show (p :: (ps ++ rest)).length = ps.length + (rest.length + 1) by simp only [List.length_cons, List.length_append]; omega] at this
      exact this
    · have hip : i = p := by
        rcases hr i hi with h | h
        · exact absurd h hix
        · exact h
      subst hip
      exact wpOp_mono (fun a' w' h' => ⟨h'.1, wpAnyK_of_ins ps _ a' w' hp h'.2⟩) h2

theorem wpAnyK_lexI (hsel : Region.noSelect ops = true) (fuel2 : Nat) {X : Act → Prop}
    (hQ : ∀ c a (d : Option Tmp) v w, Q (.panic c) (a.put d v) w → Q (.panic c) a w) {w : World} (hS : S w) :
    ∀ (hs : List Nat) (listed listed' : Array Bool) (a : Act), ClosedL md ops listed → takeB md ops hs listed = some listed' → (∀ i ∈ hs, ∀ j, j < ops.size → ks.contains j = true ∨ reachB md ops ops.size j i = true) →
    (∀ a', X a' → wpAnyK P md ops Q S ks fuel2 listed' a' w) → wpHead P ops S X hs a → wpAnyK P md ops Q S ks (hs.length + fuel2) listed a w
  | [], listed, listed', a, _, ht, _, hB, h => by
    have : listed = listed' := by simpa [takeB] using ht
    subst this
    simp only [List.length_nil, Nat.zero_add]
    exact hB a h
  | i :: is, listed, listed', a, inv, ht, hz, hB, h => by
    unfold takeB at ht
    split at ht
    · rename_i hc
      simp only [Bool.and_eq_true] at hc
      obtain ⟨o, v, ho, hy, hK⟩ := h
      have hr : i ∈ Region.ready md ops listed := by simpa using hc.1
      rw [show (i :: is).length + fuel2 = (is.length + fuel2) + 1 by simp only [List.length_cons]; omega]
      exact wpAnyK_first ho (Region.noSelect_spec hsel) (hz i (by simp)) (fun c a w => hQ c a _ _ w) (is.length + fuel2) listed a w inv (Region.free_spec ho hc.2) hr hy hS
        (wpAnyK_lexI hsel fuel2 hQ hS is _ listed' _ (inv.set hr) ht (fun i' hi' => hz i' (by simp [hi'])) hB hK)
    · cases ht

def planI (md : Region.Mode) (ops : Array Oper) (hs : List Nat) (x : Nat) (ps rest ks : List Nat) : Bool :=
  Region.noSelect ops && decide (hs.length + (ps.length + (rest.length + 1)) = ops.size) && (hs.all fun i => (List.range ops.size).all fun j => ks.contains j || reachB md ops ops.size j i) &&
    match takeB md ops hs (Array.replicate ops.size false) with
    | some listed => insB md ops x rest ps listed
    | none => false

/-- **THE LAW.** -/
theorem wp_region_ins {id : Nat} {a : Act} {w : World} (hs : List Nat) (x : Nat) (ps rest ks : List Nat) (S : World → Prop) (hmix : P.follows .mixedOrders = true) (hB : planI .any ops hs x ps rest ks = true)
    (hQ : ∀ c a (d : Option Tmp) v w, Q (.panic c) (a.put d v) w → Q (.panic c) a w) (hS : S w.drew)
    (h : wpHead P ops S (fun a' => wpIns P ops Q S ks x rest ps a' w.drew) hs a) : (Code.region id ops true).wp P Q a w := by
  simp only [planI, Bool.and_eq_true, decide_eq_true_eq, List.all_eq_true, Bool.or_eq_true, List.mem_range] at hB
  obtain ⟨⟨⟨hsel, hlen⟩, hz⟩, hB⟩ := hB
  split at hB
  · rename_i listed' ht
    have inv0 : ClosedL .any ops (Array.replicate ops.size false) := fun j oj _ hl => (by rw [getD_replicate_false] at hl; cases hl)
    have H := wpAnyK_lexI (md := .any) hsel (ps.length + (rest.length + 1)) hQ hS hs _ listed' a inv0 ht hz (fun a' h' => wpAnyK_of_ins ps listed' a' w.drew hB h') h
    rw [hlen] at H
    exact wp_region_any hmix (wpAny_of_K _ _ _ _ H)
  · cases hB
end
end Go.Proofs.YbulkdzeiDoor.C
