/-
  A REGION THAT DRAWS ITS ORDER, WALKED IN ONE ORDER OF THE PROVER's CHOICE. 'hs': operations that only read cells which S names (taken first, in this order, wherever they stand in the text); 'ts': the others, which then come up in this order and no other; 'ks': the operations behind which S is shown anew. Whatever is not on 'ks' waits, through whatever others, for every operation of 'hs'.
-/
import Derived.OrdersHeld
import Derived.StillTail
import Derived.Deep.RegionHeld
namespace Go.Proofs.YbulkdzeiDoor.C
open Go
section
variable {P : Program} {ops : Array Oper} {Q : Exit → Act → World → Prop} {md : Region.Mode} {S : World → Prop} {ks : List Nat}

def reachB (md : Region.Mode) (ops : Array Oper) : Nat → Nat → Nat → Bool
  | 0, _, _ => false
  | f + 1, z, i => match ops[z]? with
    | some o => o.after.any fun e => Region.binds md e && (e.on == i || reachB md ops f e.on i)
    | none => false

def ClosedL (md : Region.Mode) (ops : Array Oper) (listed : Array Bool) : Prop :=
  ∀ j oj, ops[j]? = some oj → listed.getD j false = true → ∀ e ∈ oj.after, Region.binds md e = true → listed.getD e.on false = true

theorem ClosedL.set {listed : Array Bool} (h : ClosedL md ops listed) {i : Nat} (hi : i ∈ Region.ready md ops listed) : ClosedL md ops (listed.setIfInBounds i true) := by
  obtain ⟨_, oi, hoi, hall⟩ := mem_ready.1 hi
  intro j oj hj hl e he hb
  by_cases hij : i = j
  · subst hij
    have : oj = oi := Option.some.inj (hj.symm.trans hoi)
    subst this
    exact getD_set_true (hall e he hb)
  · rw [getD_set_ne false hij] at hl
    exact getD_set_true (h j oj hj hl e he hb)

theorem reach_listed {listed : Array Bool} (h : ClosedL md ops listed) : ∀ (f z i : Nat), reachB md ops f z i = true → (listed.getD z false = true ∨ z ∈ Region.ready md ops listed) → listed.getD i false = true
  | 0, _, _, hr, _ => by simp [reachB] at hr
  | f + 1, z, i, hr, hz => by
    unfold reachB at hr
    cases ho : ops[z]? with
    | none => rw [ho] at hr; simp at hr
    | some o =>
      rw [ho] at hr
      obtain ⟨e, he, hb⟩ := Array.any_eq_true'.1 hr
      simp only [Bool.and_eq_true, Bool.or_eq_true, beq_iff_eq] at hb
      have hl : listed.getD e.on false = true := by
        rcases hz with hz | hz
        · exact h z o ho hz e he hb.1
        · obtain ⟨_, o', ho', hall⟩ := mem_ready.1 hz
          have : o' = o := Option.some.inj (ho'.symm.trans ho)
          subst this
          exact hall e he hb.1
      rcases hb.2 with h1 | h1
      · rw [← h1]; exact hl
      · exact reach_listed h f e.on i h1 (.inl hl)

def wpAnyK (P : Program) (md : Region.Mode) (ops : Array Oper) (Q : Exit → Act → World → Prop) (S : World → Prop) (ks : List Nat) : Nat → Array Bool → Act → World → Prop
  | 0, listed, a, w => Region.ready md ops listed = [] ∧ Q .normal a w
  | fuel + 1, listed, a, w =>
    (Region.ready md ops listed = [] → Q .normal a w) ∧
    ∀ i ∈ Region.ready md ops listed, wpOp P ops Q i (fun a' w' => (ks.contains i = true → S w') ∧ wpAnyK P md ops Q S ks fuel (listed.setIfInBounds i true) a' w') a w

theorem wpAny_of_K : ∀ (fuel : Nat) (listed : Array Bool) (a : Act) (w : World), wpAnyK P md ops Q S ks fuel listed a w → wpAny P md ops Q fuel listed a w
  | 0, _, _, _, h => h
  | fuel + 1, _, _, _, h => ⟨h.1, fun i hi => wpOp_mono (fun a' w' h' => wpAny_of_K fuel _ a' w' h'.2) (h.2 i hi)⟩

theorem wpAnyK_first {i : Nat} {oi : Oper} {v : Value} (hi : ops[i]? = some oi) (hsel : ∀ (j : Nat) (o : Oper) cs b, ops[j]? = some o → o.op ≠ .select cs b)
    (hz : ∀ j, j < ops.size → ks.contains j = true ∨ reachB md ops ops.size j i = true)
    (hQ : ∀ c a w, Q (.panic c) (a.put oi.dst v) w → Q (.panic c) a w) :
    ∀ (fuel : Nat) (listed : Array Bool) (a : Act) (w : World), ClosedL md ops listed →
      (∀ j oj, ops[j]? = some oj → j ≠ i → listed.getD j true = false → (∀ e ∈ oj.after, Region.binds md e = true → e.on ≠ i) → oi.apart ops oj = true) →
      i ∈ Region.ready md ops listed → YieldsIf P ops S oi v a → S w →
      wpAnyK P md ops Q S ks fuel (listed.setIfInBounds i true) (a.put oi.dst v) w → wpAnyK P md ops Q S ks (fuel + 1) listed a w := by
  intro fuel
  induction fuel with
  | zero =>
    intro listed a w _ _ hr hy hS H
    refine ⟨fun h => (by rw [h] at hr; cases hr), fun j hj => ?_⟩
    by_cases hji : j = i
    · subst hji; exact hy.wpOp hi hS ⟨fun _ => hS, H⟩
    · have := ready_mono hj hji
      rw [H.1] at this
      cases this
  | succ fuel ih =>
    intro listed a w inv hfree hr hy hS H
    have hun := (mem_ready.1 hr).1
    refine ⟨fun h => (by rw [h] at hr; cases hr), fun j hj => ?_⟩
    by_cases hji : j = i
    · subst hji; exact hy.wpOp hi hS ⟨fun _ => hS, H⟩
    · obtain ⟨hjun, oj, hoj, hall⟩ := mem_ready.1 hj
      have hjk : ks.contains j = true := by
        rcases hz j (Array.getElem?_eq_some_iff.1 hoj).1 with h | h
        · exact h
        · have := reach_listed inv _ j i h (.inr hj)
          rw [getD_both hun] at this
          cases this
      have h1 := H.2 j (ready_mono hj hji)
      have hnot : ∀ e ∈ oj.after, Region.binds md e = true → e.on ≠ i := fun e he hb heq => by
        have h1 := hall e he hb
        rw [heq, getD_both hun] at h1
        cases h1
      have h2 := wpOp_putIf hoj (hfree j oj hoj hji hjun hnot) (fun cs b => hsel i oi cs b hi) (fun cs b => hsel j oj cs b hoj) hQ hy h1
      have hfree' : ∀ k ok, ops[k]? = some ok → k ≠ i → (listed.setIfInBounds j true).getD k true = false →
          (∀ e ∈ ok.after, Region.binds md e = true → e.on ≠ i) → oi.apart ops ok = true := fun k ok hk hki hun hno => by
        refine hfree k ok hk hki ?_ hno
        by_cases hjk : j = k
        · subst hjk; exact hjun
        · rw [getD_set_ne true hjk] at hun; exact hun
      refine wpOp_mono (fun a' w' h3 => ⟨fun _ => h3.2.1 hjk, ih (listed.setIfInBounds j true) a' w' (inv.set hj) hfree' (ready_mono hr (Ne.symm hji)) h3.1 (h3.2.1 hjk) ?_⟩) h2
      rw [Array.setIfInBounds_comm _ _ hji]
      exact h3.2.2

/-- The head: each operation, by its number, yields its value in every world that meets S. -/
def wpHead (P : Program) (ops : Array Oper) (S : World → Prop) (L : Act → Prop) : List Nat → Act → Prop
  | [], a => L a
  | i :: is, a => ∃ o v, ops[i]? = some o ∧ YieldsIf P ops S o v a ∧ wpHead P ops S L is (a.put o.dst v)

theorem wpHead_nil {L : Act → Prop} {a : Act} (h : L a) : wpHead P ops S L [] a := h
theorem wpHead_cons {l : List Oper} {L : Act → Prop} {a : Act} {i : Nat} {o : Oper} {is : List Nat} {v : Value} (ho : l[i]? = some o) (hw : Region.wanted o (yielded l.toArray a.tmps) = true)
    (hy : ∀ w, S w → (execOp a.eval o).run P w = .ok (.value v) w) (h : wpHead P l.toArray S L is (a.put o.dst v)) : wpHead P l.toArray S L (i :: is) a := ⟨o, v, by simpa using ho, .inl ⟨hw, hy⟩, h⟩
/-- Its guard says no. -/
theorem wpHead_skip {l : List Oper} {L : Act → Prop} {a : Act} {i : Nat} {o : Oper} {is : List Nat} (ho : l[i]? = some o) (hw : Region.wanted o (yielded l.toArray a.tmps) = false)
    (h : wpHead P l.toArray S L is (a.put o.dst undef)) : wpHead P l.toArray S L (i :: is) a := ⟨o, undef, by simpa using ho, .inr ⟨hw, rfl⟩, h⟩

/-- The tail: operations by their numbers, S shown anew behind those of 'ks'. -/
def wpTail (P : Program) (ops : Array Oper) (Q : Exit → Act → World → Prop) (S : World → Prop) (ks : List Nat) : List Nat → Act → World → Prop
  | [], a, w => Q .normal a w
  | i :: is, a, w => wpOp P ops Q i (fun a' w' => (ks.contains i = true → S w') ∧ wpTail P ops Q S ks is a' w') a w

theorem wpTail_nil {a : Act} {w : World} (h : Q .normal a w) : wpTail P ops Q S ks [] a w := h
/-- A step behind which S is shown anew. -/
theorem wpTail_keep {l : List Oper} {i : Nat} {is : List Nat} {o : Oper} {a : Act} {w : World} (ho : l[i]? = some o) (hg : Region.wanted o (yielded l.toArray a.tmps) = true)
    (h : ∀ K : Act → World → Prop, Shut (∀ a w, S w → wpTail P l.toArray Q S ks is a w → K a w) → o.wp P a w K Q) : wpTail P l.toArray Q S ks (i :: is) a w := by
  unfold wpTail wpOp
  simp only [List.getElem?_toArray, ho, hg, if_true]
  exact .inl (h _ (fun a w hS h => ⟨fun _ => hS, h⟩))
/-- A step behind which all of the head has come up. -/
theorem wpTail_step {l : List Oper} {i : Nat} {is : List Nat} {o : Oper} {a : Act} {w : World} (ho : l[i]? = some o) (hk : ks.contains i = false) (hg : Region.wanted o (yielded l.toArray a.tmps) = true)
    (h : ∀ K : Act → World → Prop, Shut (∀ a w, wpTail P l.toArray Q S ks is a w → K a w) → o.wp P a w K Q) : wpTail P l.toArray Q S ks (i :: is) a w := by
  unfold wpTail wpOp
  simp only [List.getElem?_toArray, ho, hg, if_true]
  exact .inl (h _ (fun a w h => ⟨fun hc => (by rw [hk] at hc; cases hc), h⟩))
/-- From some place on the walk goes on as in a plain region. -/
theorem wpTail_list {l : List Oper} : ∀ (is : List Nat) (a : Act) (w : World), (is.all fun i => !ks.contains i && (l[i]?).isSome) = true →
    wpList P l.toArray Q (is.filterMap fun i => l[i]?) a w → wpTail P l.toArray Q S ks is a w
  | [], a, w, _, h => h
  | i :: is, a, w, hk, h => by
    simp only [List.all_cons, Bool.and_eq_true, Bool.not_eq_true'] at hk
    obtain ⟨⟨hk1, hk2⟩, hk3⟩ := hk
    obtain ⟨o, ho⟩ := Option.isSome_iff_exists.1 hk2
    rw [List.filterMap_cons, ho] at h
    have hw : wpOp P l.toArray Q i (wpList P l.toArray Q (is.filterMap fun i => l[i]?)) a w := by unfold wpOp; simp only [List.getElem?_toArray, ho]; exact h
    exact wpOp_mono (fun a' w' h' => ⟨fun hc => (by rw [hk1] at hc; cases hc), wpTail_list is a' w' hk3 h'⟩) hw

def seqL (md : Region.Mode) (ops : Array Oper) : List Nat → Array Bool → Bool
  | [], listed => (Region.ready md ops listed).isEmpty
  | k :: r, listed => decide (Region.ready md ops listed = [k]) && seqL md ops r (listed.setIfInBounds k true)

theorem wpAnyK_of_tail : ∀ (ts : List Nat) (listed : Array Bool) (a : Act) (w : World), seqL md ops ts listed = true → wpTail P ops Q S ks ts a w → wpAnyK P md ops Q S ks ts.length listed a w
  | [], listed, a, w, hB, h => ⟨by simpa [seqL] using hB, h⟩
  | k :: r, listed, a, w, hB, h => by
    simp only [seqL, Bool.and_eq_true, decide_eq_true_eq] at hB
    refine ⟨fun h1 => (by rw [hB.1] at h1; cases h1), fun i hi => ?_⟩
    rw [hB.1] at hi
    have hik : i = k := by simpa using hi
    subst hik
    exact wpOp_mono (fun a' w' h' => ⟨h'.1, wpAnyK_of_tail r _ a' w' hB.2 h'.2⟩) h

def takeB (md : Region.Mode) (ops : Array Oper) : List Nat → Array Bool → Option (Array Bool)
  | [], listed => some listed
  | i :: is, listed => if (Region.ready md ops listed).contains i && Region.free md ops listed i then takeB md ops is (listed.setIfInBounds i true) else none

theorem wpAnyK_lex (hsel : Region.noSelect ops = true) {ts : List Nat}
    (hQ : ∀ c a (d : Option Tmp) v w, Q (.panic c) (a.put d v) w → Q (.panic c) a w) {w : World} (hS : S w) :
    ∀ (hs : List Nat) (listed listed' : Array Bool) (a : Act), ClosedL md ops listed → takeB md ops hs listed = some listed' → (∀ i ∈ hs, ∀ j, j < ops.size → ks.contains j = true ∨ reachB md ops ops.size j i = true) →
    seqL md ops ts listed' = true → wpHead P ops S (fun a' => wpTail P ops Q S ks ts a' w) hs a → wpAnyK P md ops Q S ks (hs.length + ts.length) listed a w
  | [], listed, listed', a, _, ht, _, hB, h => by
    have : listed = listed' := by simpa [takeB] using ht
    subst this
    simp only [List.length_nil, Nat.zero_add]
    exact wpAnyK_of_tail ts listed a w hB h
  | i :: is, listed, listed', a, inv, ht, hz, hB, h => by
    unfold takeB at ht
    split at ht
    · rename_i hc
      simp only [Bool.and_eq_true] at hc
      obtain ⟨o, v, ho, hy, hK⟩ := h
      have hr : i ∈ Region.ready md ops listed := by simpa using hc.1
      rw [show (i :: is).length + ts.length = (is.length + ts.length) + 1 by simp only [List.length_cons]; omega]
      exact wpAnyK_first ho (Region.noSelect_spec hsel) (hz i (by simp)) (fun c a w => hQ c a _ _ w) (is.length + ts.length) listed a w inv (Region.free_spec ho hc.2) hr hy hS
        (wpAnyK_lex hsel hQ hS is _ listed' _ (inv.set hr) ht (fun i' hi' => hz i' (by simp [hi'])) hB hK)
    · cases ht

def planB (md : Region.Mode) (ops : Array Oper) (hs ts ks : List Nat) : Bool :=
  Region.noSelect ops && decide (hs.length + ts.length = ops.size) && (hs.all fun i => (List.range ops.size).all fun j => ks.contains j || reachB md ops ops.size j i) &&
    match takeB md ops hs (Array.replicate ops.size false) with
    | some listed => seqL md ops ts listed
    | none => false

/-- **THE LAW.** -/
theorem wp_region_pick {id : Nat} {a : Act} {w : World} (hs ts ks : List Nat) (S : World → Prop) (hmix : P.follows .mixedOrders = true) (hB : planB .any ops hs ts ks = true)
    (hQ : ∀ c a (d : Option Tmp) v w, Q (.panic c) (a.put d v) w → Q (.panic c) a w) (hS : S w.drew)
    (h : wpHead P ops S (fun a' => wpTail P ops Q S ks ts a' w.drew) hs a) : (Code.region id ops true).wp P Q a w := by
  simp only [planB, Bool.and_eq_true, decide_eq_true_eq, List.all_eq_true, Bool.or_eq_true, List.mem_range] at hB
  obtain ⟨⟨⟨hsel, hlen⟩, hz⟩, hB⟩ := hB
  split at hB
  · rename_i listed' ht
    have inv0 : ClosedL .any ops (Array.replicate ops.size false) := fun j oj _ hl => (by rw [getD_replicate_false] at hl; cases hl)
    have H := wpAnyK_lex (md := .any) (ts := ts) hsel hQ hS hs _ listed' a inv0 ht hz hB h
    rw [hlen] at H
    exact wp_region_any hmix (wpAny_of_K _ _ _ _ H)
  · cases hB
end
end Go.Proofs.YbulkdzeiDoor.C
