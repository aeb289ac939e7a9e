/-
  A REGION THAT DRAWS ITS ORDER: A HELD HEAD (operations that only read cells which nobody writes till all of them have come up) AND A FORCED TAIL. The tail's first operations, which may come up while a read of the head still waits, must keep what the head reads ('S'); from operation m on the whole head has come up.
-/
import Derived.OrdersHeld
import Derived.StillTail
import Derived.Deep.RegionHeld
namespace Go.Proofs.YbulkdzeiDoor
open Go
section
variable {P : Program} {ops : Array Oper} {Q : Exit → Act → World → Prop} {md : Region.Mode} {S : World → Prop} {m : Nat}

def wpAnyE (P : Program) (md : Region.Mode) (ops : Array Oper) (Q : Exit → Act → World → Prop) (S : World → Prop) (m : Nat) : Nat → Array Bool → Act → World → Prop
  | 0, listed, a, w => Region.ready md ops listed = [] ∧ Q .normal a w
  | fuel + 1, listed, a, w =>
    (Region.ready md ops listed = [] → Q .normal a w) ∧
    ∀ i ∈ Region.ready md ops listed, wpOp P ops Q i (fun a' w' => (i < m → S w') ∧ wpAnyE P md ops Q S m fuel (listed.setIfInBounds i true) a' w') a w

theorem wpAny_of_E : ∀ (fuel : Nat) (listed : Array Bool) (a : Act) (w : World), wpAnyE P md ops Q S m fuel listed a w → wpAny P md ops Q fuel listed a w
  | 0, _, _, _, h => h
  | fuel + 1, _, _, _, h => ⟨h.1, fun i hi => wpOp_mono (fun a' w' h' => wpAny_of_E fuel _ a' w' h'.2) (h.2 i hi)⟩

theorem wpAnyE_first {i : Nat} {oi : Oper} {v : Value} (hi : ops[i]? = some oi) (hsel : ∀ (j : Nat) (o : Oper) cs b, ops[j]? = some o → o.op ≠ .select cs b)
    (hs : Region.sinkB md ops m = true) (hc : Region.chainB md ops m = true) (hm : m < ops.size) (him : i < m)
    (hQ : ∀ c a w, Q (.panic c) (a.put oi.dst v) w → Q (.panic c) a w) :
    ∀ (fuel : Nat) (listed : Array Bool) (a : Act) (w : World), HeadInv md ops m listed →
      (∀ j oj, ops[j]? = some oj → j ≠ i → listed.getD j true = false → (∀ e ∈ oj.after, Region.binds md e = true → e.on ≠ i) → oi.apart ops oj = true) →
      i ∈ Region.ready md ops listed → YieldsIf P ops S oi v a → S w →
      wpAnyE P md ops Q S m fuel (listed.setIfInBounds i true) (a.put oi.dst v) w → wpAnyE P md ops Q S m (fuel + 1) listed a w := by
  intro fuel
  induction fuel with
  | zero =>
    intro listed a w _ _ hr hy hS H
    refine ⟨fun h => (by rw [h] at hr; cases hr), fun j hj => ?_⟩
    by_cases hji : j = i
    · subst hji; exact hy.wpOp hi hS ⟨fun _ => hS, H⟩
    · have := ready_mono hj hji
      rw [H.1] at this
      cases this
  | succ fuel ih =>
    intro listed a w inv hfree hr hy hS H
    have hun := (mem_ready.1 hr).1
    refine ⟨fun h => (by rw [h] at hr; cases hr), fun j hj => ?_⟩
    by_cases hji : j = i
    · subst hji; exact hy.wpOp hi hS ⟨fun _ => hS, H⟩
    · have hjm : j < m := by
        rcases Nat.lt_or_ge j m with h | h
        · exact h
        · exact absurd hj (tail_waits hs hc hm inv _ i rfl him hun j h)
      have h1 := H.2 j (ready_mono hj hji)
      obtain ⟨hjun, oj, hoj, hall⟩ := mem_ready.1 hj
      have hnot : ∀ e ∈ oj.after, Region.binds md e = true → e.on ≠ i := fun e he hb heq => by
        have h1 := hall e he hb
        rw [heq, getD_both hun] at h1
        cases h1
      have h2 := wpOp_putIf hoj (hfree j oj hoj hji hjun hnot) (fun cs b => hsel i oi cs b hi) (fun cs b => hsel j oj cs b hoj) hQ hy h1
      have hfree' : ∀ k ok, ops[k]? = some ok → k ≠ i → (listed.setIfInBounds j true).getD k true = false →
          (∀ e ∈ ok.after, Region.binds md e = true → e.on ≠ i) → oi.apart ops ok = true := fun k ok hk hki hun hno => by
        refine hfree k ok hk hki ?_ hno
        by_cases hjk : j = k
        · subst hjk; exact hjun
        · rw [getD_set_ne true hjk] at hun; exact hun
      refine wpOp_mono (fun a' w' h3 => ⟨fun _ => h3.2.1 hjm, ih (listed.setIfInBounds j true) a' w' (inv.set hj hjm) hfree' (ready_mono hr (Ne.symm hji)) h3.1 (h3.2.1 hjm) ?_⟩) h2
      rw [Array.setIfInBounds_comm _ _ hji]
      exact h3.2.2

/-- The head, in the text's order: each operation yields its value in every world that meets S. -/
def wpHeld (P : Program) (ops : Array Oper) (S : World → Prop) (L : Act → Prop) : List Oper → Act → Prop
  | [], a => L a
  | o :: l, a => ∃ v, YieldsIf P ops S o v a ∧ wpHeld P ops S L l (a.put o.dst v)

theorem wpHeld_nil {L : Act → Prop} {a : Act} (h : L a) : wpHeld P ops S L [] a := h
/-- The step is handed over under its condition: the value is read off the run. -/
theorem wpHeld_cons {L : Act → Prop} {a : Act} {o : Oper} {l : List Oper} {v : Value} (hw : Region.wanted o (yielded ops a.tmps) = true)
    (hy : ∀ w, S w → (execOp a.eval o).run P w = .ok (.value v) w) (h : wpHeld P ops S L l (a.put o.dst v)) : wpHeld P ops S L (o :: l) a := ⟨v, .inl ⟨hw, hy⟩, h⟩
/-- Its guard says no. -/
theorem wpHeld_skip {L : Act → Prop} {a : Act} {o : Oper} {l : List Oper} (hw : Region.wanted o (yielded ops a.tmps) = false)
    (h : wpHeld P ops S L l (a.put o.dst undef)) : wpHeld P ops S L (o :: l) a := ⟨undef, .inr ⟨hw, rfl⟩, h⟩

/-- The tail, in the text's order: S shown anew behind each of the first k operations. -/
def wpSeqS (P : Program) (ops : Array Oper) (Q : Exit → Act → World → Prop) (S : World → Prop) : Nat → List Oper → Act → World → Prop
  | k + 1, o :: l, a, w => if Region.wanted o (yielded ops a.tmps) then o.wp P a w (fun a' w' => S w' ∧ wpSeqS P ops Q S k l a' w') Q ∨ (o.asks P a w ∧ LetsOut Q)
      else S w ∧ wpSeqS P ops Q S k l (a.put o.dst undef) w
  | _ + 1, [], a, w => Q .normal a w
  | 0, l, a, w => wpList P ops Q l a w

theorem wpSeqS_zero {l : List Oper} {a : Act} {w : World} (h : wpList P ops Q l a w) : wpSeqS P ops Q S 0 l a w := h
theorem wpSeqS_step {k : Nat} {o : Oper} {l : List Oper} {a : Act} {w : World} (hg : Region.wanted o (yielded ops a.tmps) = true)
    (h : ∀ K : Act → World → Prop, Shut (∀ a w, S w → wpSeqS P ops Q S k l a w → K a w) → o.wp P a w K Q) : wpSeqS P ops Q S (k + 1) (o :: l) a w := by
  unfold wpSeqS
  rw [if_pos hg]
  exact .inl (h _ (fun a w hS h => ⟨hS, h⟩))

theorem wpAnyE_of_seq : ∀ (l : List Oper) (k : Nat) (listed : Array Bool) (a : Act) (w : World), (∀ j, l[j]? = ops[k + j]?) →
    Region.seqB md ops l.length k listed = true → wpSeqS P ops Q S (m - k) l a w → wpAnyE P md ops Q S m l.length listed a w
  | [], k, listed, a, w, _, hB, h => by
    refine ⟨by simpa [Region.seqB] using hB, ?_⟩
    cases hk : m - k with
    | zero => rw [hk] at h; exact h
    | succ n => rw [hk] at h; exact h
  | o :: l, k, listed, a, w, hl, hB, h => by
    have h0 : ops[k]? = some o := by simpa using (hl 0).symm
    simp only [List.length_cons, Region.seqB, Bool.and_eq_true, decide_eq_true_eq] at hB
    refine ⟨fun h1 => (by rw [hB.1] at h1; cases h1), fun i hi => ?_⟩
    rw [hB.1] at hi
    have hik : i = k := by simpa using hi
    subst hik
    have hl' : ∀ j, l[j]? = ops[i + 1 + j]? := fun j => by have := hl (j + 1); simpa [Nat.add_assoc, Nat.add_comm 1 j] using this
    cases hk : m - i with
    | zero =>
      rw [hk] at h
      have hw : wpOp P ops Q i (wpList P ops Q l) a w := by unfold wpOp; simp only [h0]; exact h
      refine wpOp_mono (fun a' w' h' => ⟨fun hlt => by omega, wpAnyE_of_seq l (i + 1) _ a' w' hl' hB.2 ?_⟩) hw
      rw [show m - (i + 1) = 0 by omega]
      exact h'
    | succ n =>
      rw [hk] at h
      have hw : wpOp P ops Q i (fun a' w' => S w' ∧ wpSeqS P ops Q S n l a' w') a w := by unfold wpOp; simp only [h0]; exact h
      refine wpOp_mono (fun a' w' h' => ⟨fun _ => h'.1, wpAnyE_of_seq l (i + 1) _ a' w' hl' hB.2 ?_⟩) hw
      rw [show m - (i + 1) = n by omega]
      exact h'.2

theorem wpAnyE_lex {n g : Nat} (hsel : Region.noSelect ops = true) (hs : Region.sinkB md ops m = true) (hc : Region.chainB md ops m = true) (hm : m < ops.size) (hnm : n ≤ m)
    (hQ : ∀ c a (d : Option Tmp) v w, Q (.panic c) (a.put d v) w → Q (.panic c) a w) {w : World} (hS : S w) :
    ∀ (l : List Oper) (k : Nat) (listed : Array Bool) (a : Act), (∀ j, j < l.length → l[j]? = ops[k + j]?) → k + l.length = n → HeadInv md ops m listed →
    Region.lexHead md ops g l.length k listed = true →
    wpHeld P ops S (fun a' => ∀ listed', Region.seqB md ops g n listed' = true → wpAnyE P md ops Q S m g listed' a' w) l a →
    wpAnyE P md ops Q S m (l.length + g) listed a w
  | [], k, listed, a, _, hk, _, hB, h => by
    have : k = n := by simpa using hk
    subst this
    simp only [List.length_nil, Nat.zero_add]
    exact h _ (by simpa [Region.lexHead] using hB)
  | o :: l, k, listed, a, hl, hk, inv, hB, h => by
    have h0 : ops[k]? = some o := by simpa using (hl 0 (by simp)).symm
    simp only [List.length_cons, Region.lexHead, Bool.and_eq_true] at hB
    obtain ⟨⟨hr, hf⟩, hB'⟩ := hB
    have hkm : k < m := by simp only [List.length_cons] at hk; omega
    have hr' : k ∈ Region.ready md ops listed := by simpa using hr
    obtain ⟨v, hy, hK⟩ := h
    rw [show (o :: l).length + g = (l.length + g) + 1 by simp only [List.length_cons]; omega]
    exact wpAnyE_first h0 (Region.noSelect_spec hsel) hs hc hm hkm (fun c a w => hQ c a _ _ w) (l.length + g) listed a w inv (Region.free_spec h0 hf) hr' hy hS
      (wpAnyE_lex hsel hs hc hm hnm hQ hS l (k + 1) _ _ (fun j hj => by have := hl (j + 1) (by simp; omega); simpa [Nat.add_assoc, Nat.add_comm 1 j] using this) (by simp only [List.length_cons] at hk; omega) (inv.set hr' hkm) hB' hK)

def lexHeldB (md : Region.Mode) (ops : Array Oper) (n m : Nat) : Bool :=
  Region.noSelect ops && decide (m < ops.size) && decide (n ≤ m) && Region.sinkB md ops m && Region.chainB md ops m && Region.lexHead md ops (ops.size - n) n 0 (Array.replicate ops.size false)

/-- **THE LAW.** n: how many operations the head has · m: from this operation on all of the head has come up. -/
theorem wp_region_held_tail {id : Nat} {a : Act} {w : World} {l : List Oper} (n m : Nat) (S : World → Prop) (hmix : P.follows .mixedOrders = true) (hB : lexHeldB .any l.toArray n m = true)
    (hQ : ∀ c a (d : Option Tmp) v w, Q (.panic c) (a.put d v) w → Q (.panic c) a w) (hS : S w.drew)
    (h : wpHeld P l.toArray S (fun a' => wpSeqS P l.toArray Q S (m - n) (l.drop n) a' w.drew) (l.take n) a) : (Code.region id l.toArray true).wp P Q a w := by
  simp only [lexHeldB, Bool.and_eq_true, decide_eq_true_eq] at hB
  obtain ⟨⟨⟨⟨⟨hsel, hm⟩, hnm⟩, hs⟩, hc⟩, hlex⟩ := hB
  have hm' : m < l.length := by simpa using hm
  have htl : (l.take n).length = n := by simp; omega
  have hdl : (l.drop n).length = l.toArray.size - n := by simp
  have inv0 : HeadInv .any l.toArray m (Array.replicate l.toArray.size false) :=
    ⟨by simp, fun j oj _ hl => (by rw [getD_replicate_false] at hl; cases hl), fun t _ ht => getD_in (by simpa using ht) (getD_replicate_false _ _)⟩
  have mono : ∀ (l' : List Oper) (a : Act), wpHeld P l.toArray S (fun a' => wpSeqS P l.toArray Q S (m - n) (l.drop n) a' w.drew) l' a →
      wpHeld P l.toArray S (fun a' => ∀ listed', Region.seqB .any l.toArray (l.toArray.size - n) n listed' = true → wpAnyE P .any l.toArray Q S m (l.toArray.size - n) listed' a' w.drew) l' a := by
    intro l'
    induction l' with
    | nil =>
      intro a h listed' hb
      have := wpAnyE_of_seq (md := .any) (m := m) (l.drop n) n listed' a w.drew (fun j => by simp [List.getElem?_drop]) (by rw [hdl]; exact hb) h
      rwa [hdl] at this
    | cons o l' ih =>
      intro a h
      obtain ⟨v, hy, hK⟩ := h
      exact ⟨v, hy, ih _ hK⟩
  have H := wpAnyE_lex (md := .any) (m := m) (g := l.toArray.size - n) hsel hs hc hm hnm hQ hS (l.take n) 0 _ a (fun j hj => by
    have hj' : j < n := by rw [htl] at hj; exact hj
    simp [hj']) (by simpa using htl) inv0 (by rw [htl]; exact hlex) (mono _ _ h)
  rw [htl, show n + (l.toArray.size - n) = l.toArray.size by simp; omega] at H
  exact wp_region_any hmix (wpAny_of_E _ _ _ _ H)
end
end Go.Proofs.YbulkdzeiDoor
