/-
  A DRAWN REGION IN THREE PHASES: first 'hz': operations that read no memory, taken in this order whatever else stands ready; then 'hs', 'ts', 'us' as in wp_region_pick2.
-/
import Derived.Test.YbulkdzgmPick2
namespace Go.Proofs.Ybulkdzgm
open Go
section
variable {P : Program} {ops : Array Oper} {Q : Exit → Act → World → Prop} {md : Region.Mode} {S : World → Prop} {ks : List Nat}

theorem wpAnyK_drop {ks2 : List Nat} : ∀ (fuel : Nat) (listed : Array Bool) (a : Act) (w : World), wpAnyK P md ops Q S ks fuel listed a w → wpAnyK P md ops Q (fun _ => True) ks2 fuel listed a w
  | 0, _, _, _, h => h
  | fuel + 1, _, _, _, h => ⟨h.1, fun i hi => wpOp_mono (fun a' w' h' => ⟨fun _ => trivial, wpAnyK_drop fuel _ a' w' h'.2⟩) (h.2 i hi)⟩

/-- Where nothing is left behind the tail: from some place on the walk goes on as in a plain region. -/
theorem wpTailL_list {l : List Oper} : ∀ (is : List Nat) (a : Act) (w : World), (is.all fun i => !ks.contains i && (l[i]?).isSome) = true →
    wpList P l.toArray Q (is.filterMap fun i => l[i]?) a w → wpTailL P l.toArray Q S ks (fun a2 w2 => wpHead P l.toArray (fun _ => True) (fun a3 => Q .normal a3 w2) [] a2) is a w
  | [], a, w, _, h => h
  | i :: is, a, w, hk, h => by
    simp only [List.all_cons, Bool.and_eq_true, Bool.not_eq_true'] at hk
    obtain ⟨⟨hk1, hk2⟩, hk3⟩ := hk
    obtain ⟨o, ho⟩ := Option.isSome_iff_exists.1 hk2
    rw [List.filterMap_cons, ho] at h
    have hw : wpOp P l.toArray Q i (wpList P l.toArray Q (is.filterMap fun i => l[i]?)) a w := by unfold wpOp; simp only [List.getElem?_toArray, ho]; exact h
    exact wpOp_mono (fun a' w' h' => ⟨fun hc => (by rw [hk1] at hc; cases hc), wpTailL_list is a' w' hk3 h'⟩) hw

def planB3 (md : Region.Mode) (ops : Array Oper) (hz hs ts us ks : List Nat) : Bool :=
  Region.noSelect ops && decide (hz.length + (hs.length + (ts.length + us.length)) = ops.size) && (hs.all fun i => (List.range ops.size).all fun j => ks.contains j || reachB md ops ops.size j i) &&
    match takeB md ops hz (Array.replicate ops.size false) with
    | some listed0 => (match takeB md ops hs listed0 with
      | some listed => (match seqP md ops ts listed with
        | some listed2 => ((List.range ops.size).all fun i => !ks.contains i || listed2.getD i false) && (match takeB md ops us listed2 with
          | some listed3 => (Region.ready md ops listed3).isEmpty
          | none => false)
        | none => false)
      | none => false)
    | none => false

/-- **THE LAW.** -/
theorem wp_region_pick3 {id : Nat} {a : Act} {w : World} (hz hs ts us ks : List Nat) (S : World → Prop) (hmix : P.follows .mixedOrders = true) (hB : planB3 .any ops hz hs ts us ks = true)
    (hQ : ∀ c a (d : Option Tmp) v w, Q (.panic c) (a.put d v) w → Q (.panic c) a w) (hS : S w.drew)
    (h : wpHead P ops (fun _ => True) (fun a0 => wpHead P ops S (fun a' => wpTailL P ops Q S ks (fun a2 w2 => wpHead P ops (fun _ => True) (fun a3 => Q .normal a3 w2) us a2) ts a' w.drew) hs a0) hz a) : (Code.region id ops true).wp P Q a w := by
  simp only [planB3, Bool.and_eq_true, decide_eq_true_eq, List.all_eq_true, Bool.or_eq_true, List.mem_range] at hB
  obtain ⟨⟨⟨hsel, hlen⟩, hzz⟩, hB⟩ := hB
  have inv0 : ClosedL .any ops (Array.replicate ops.size false) := fun j oj _ hl => (by rw [getD_replicate_false] at hl; cases hl)
  split at hB
  · rename_i listed0 ht0
    split at hB
    · rename_i listed' ht
      split at hB
      · rename_i listed2 hs2
        rw [Bool.and_eq_true] at hB
        obtain ⟨hks, hB⟩ := hB
        simp only [List.all_eq_true, Bool.or_eq_true, List.mem_range, Bool.not_eq_true'] at hks
        split at hB
        · rename_i listed3 ht3
          have inv00 := takeB_closed _ _ _ inv0 ht0
          have inv1 := takeB_closed _ _ _ inv00 ht
          have inv2 := seqP_closed _ _ _ inv1 hs2
          have hL : ∀ a2 w2, wpHead P ops (fun _ => True) (fun a3 => Q .normal a3 w2) us a2 → wpAnyK P .any ops Q S ks us.length listed2 a2 w2 := fun a2 w2 hh => by
            refine wpAnyK_weaken (S2 := fun _ => True) (ks2 := List.range ops.size) _ _ _ _ (fun i hi hk => ?_) ?_
            · rcases hks i hi with h1 | h1
              · rw [hk] at h1; cases h1
              · exact h1
            · have := wpAnyK_lexL (md := .any) (S := fun _ => True) (ks := List.range ops.size) hsel 0 (X := fun a3 => Q .normal a3 w2) hQ (w := w2) trivial us listed2 listed3 a2 inv2 ht3 (fun i _ j hj => .inl (by simpa using hj)) (fun a3 h3 => ⟨by simpa using hB, h3⟩) hh
              simpa using this
          have H1 : ∀ a0, wpHead P ops S (fun a' => wpTailL P ops Q S ks (fun a2 w2 => wpHead P ops (fun _ => True) (fun a3 => Q .normal a3 w2) us a2) ts a' w.drew) hs a0 → wpAnyK P .any ops Q (fun _ => True) (List.range ops.size) (hs.length + (ts.length + us.length)) listed0 a0 w.drew := fun a0 h0 =>
            wpAnyK_drop _ _ _ _ (wpAnyK_lexL (md := .any) hsel (ts.length + us.length) hQ hS hs listed0 listed' a0 inv00 ht hzz (fun a' h' => wpAnyK_of_tailL us.length hL ts listed' a' w.drew hs2 h') h0)
          have H := wpAnyK_lexL (md := .any) (S := fun _ => True) (ks := List.range ops.size) hsel (hs.length + (ts.length + us.length)) hQ (w := w.drew) trivial hz _ listed0 a inv0 ht0 (fun i _ j hj => .inl (by simpa using hj)) H1 h
          rw [hlen] at H
          exact wp_region_any hmix (wpAny_of_K _ _ _ _ H)
        · cases hB
      · cases hB
    · cases hB
  · cases hB
end
end Go.Proofs.Ybulkdzgm
