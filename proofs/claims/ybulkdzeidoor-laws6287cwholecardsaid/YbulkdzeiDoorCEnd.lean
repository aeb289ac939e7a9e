/-
  THE WALK of end: one host of a group less.
-/
import Derived.Test.YbulkdzeiDoorCState
namespace Go.Proofs.YbulkdzeiDoor.C
open Go Go.RowKit
open Go.Proofs.YbulkdzeiDoor.A (fbits ffrom run_fadd addV addN run_store_float)

/-- F with x at i. -/
def upd {α : Type} (F : Nat → α) (i : Nat) (x : α) : Nat → α := fun j => if j = i then x else F j
theorem upd_at {α : Type} (F : Nat → α) (i : Nat) (x : α) : upd F i x i = x := by unfold upd; rw [if_pos rfl]
theorem upd_ne {α : Type} (F : Nat → α) {i j : Nat} (x : α) (h : j ≠ i) : upd F i x j = F j := by unfold upd; rw [if_neg h]
theorem dec_upd (L : Nat → Nat) (i : Nat) : dec L i = upd L i (L i - 1) := by
  funext j; unfold dec upd; by_cases h : j = i
  · rw [if_pos h, if_pos h, h]
  · rw [if_neg h, if_neg h]
theorem nl_congr {F G : Nat → Nat} {n : Nat} (h : ∀ i, i < n → F i = G i) : nl F n = nl G n := by
  unfold nl; apply List.map_congr_left; intro i hi; rw [h i (by simpa using hi)]

theorem own_set {w : World} {base n b i x : Nat} {v : Value} {F : Nat → Nat} (h : w.ownsRow base 3 1 v n (nl F n)) (hb : v.ownBlock = some b) : (w.setCell ⟨b, i, none⟩ (.int .i64 (x : Int))).ownsRow base 3 1 v n (nl (upd F i x) n) := by
  refine ⟨by rw [nl_len]; omega, ?_⟩
  rcases h.2 with ⟨rfl, _⟩ | ⟨g, cap, cur, rfl, h1, h2, h3, h4, h5, h6⟩
  · simp [Value.ownBlock] at hb
  · simp [Value.ownBlock] at hb
    subst hb
    refine .inr ⟨g, cap, _, rfl, h1, heap_setCell_same h2 _, h3, h4, by simp [h5], ?_⟩
    apply List.ext_getElem?
    intro j
    rw [Nat.mul_one] at h6 ⊢
    by_cases hj : j < n
    · rw [List.getElem?_take, if_pos hj, nl_get _ hj, Array.toList_setIfInBounds, List.getElem?_set]
      have hc : cur.toList[j]? = some (.int .i64 (F j : Int)) := by
        have := nl_get F hj
        rw [← h6, List.getElem?_take, if_pos hj] at this
        exact this
      by_cases hij : i = j
      · subst hij
        rw [if_pos rfl, if_pos (List.getElem?_eq_some_iff.1 hc).1, upd_at]
      · rw [if_neg hij, hc, upd_ne _ _ (fun e => hij e.symm)]
    · rw [List.getElem?_eq_none (by simp; omega), List.getElem?_eq_none (by rw [nl_len]; omega)]

section
variable {w : World} {K0 : Nat → Prop} {base g n tot fst : Nat} {Bd : Nat → Nat} {D : Nat → Int} {L T : Nat → Nat} {vd vl vt vs vm : Value} {pv : Nat → Value} {pm : Nat → Nat}

/-- A cell of an int block of ours is written: what stands in the others. -/
theorem GT.others {w' : World} (h : GT w K0 base g n Bd D L T tot fst vd vl vt vs vm pv pm) {b : Nat} {c : Array Value} (hb : w.heap[b]? = some (.cells c 3 (0, 0))) (hK : KS K0 g vd vl vt vs b) (hs : w.heap.size ≤ w'.heap.size) (hk : ∀ b', b' ≠ b → b' < w.heap.size → w'.heap[b']? = w.heap[b']?)
    {L' T' : Nat → Nat} (hl : w'.ownsRow base 3 1 vl n (nl L' n)) (ht : w'.ownsRow base 3 1 vt n (nl T' n)) : GT w' K0 base g n Bd D L' T' tot fst vd vl vt vs vm pv pm := by
  have ho : ∀ {e : TypeId} {size : Nat} {v : Value} {xs : List Value}, w.ownsRow base e size v n xs → (3 : TypeId) ≠ e → w'.ownsRow base e size v n xs := fun {e size v xs} hr he =>
    own_heap hr (fun b' hb' => hk b' (fun e' => own_ne hr hb he (e' ▸ hb')) (hr.lt b' hb').2)
  have hf : ∀ {v : Value} {k : Nat}, FRow w (KS K0 g vd vl vt vs) v k → FRow w' (KS K0 g vd vl vt vs) v k := fun {v k} hr => by
    rcases hr with h1 | ⟨b', cap, h1, h2, h3, h4, c, h5, h6⟩
    · exact .inl h1
    · exact .inr ⟨b', cap, h1, h2, h3, h4, c, (hk b' (fun e => h4 (e ▸ hK)) (lt_of_heap h5)).trans h5, h6⟩
  obtain ⟨xs, hx1, hx2⟩ := h.rs
  obtain ⟨k, hm⟩ := h.rm
  have hgb : g ≠ b := fun e => by have := h.hg; rw [e, hb] at this; simp at this
  exact
    { hg := (hk g hgb (lt_of_heap h.hg)).trans h.hg, rd := ho h.rd (by decide), rl := hl, rt := ht, rs := ⟨xs, ho hx1 (by decide), hx2⟩
      rp := fun i hi => ⟨hf (h.rp i hi).1, (h.rp i hi).2⟩, rm := ⟨k, hf hm⟩, lt := h.lt, nk := h.nk, bg := h.bg
      kl := fun b hb => Nat.lt_of_lt_of_le (h.kl b hb) hs, k0 := h.k0, kb := Nat.le_trans h.kb hs }
theorem GT.setLive (h : GT w K0 base g n Bd D L T tot fst vd vl vt vs vm pv pm) {b i : Nat} (hb : vl.ownBlock = some b) (hi : i < n) (x : Nat) : GT (w.setCell ⟨b, i, none⟩ (.int .i64 (x : Int))) K0 base g n Bd D (upd L i x) T tot fst vd vl vt vs vm pv pm := by
  obtain ⟨b', cc, cur, h1, -, -, h4, -⟩ := own_cell h.rl (nl_get L hi)
  rw [h1] at hb
  simp [Value.ownBlock] at hb
  subst hb
  exact h.others h4 (.inr (.inr (.inr (.inl (by rw [h1]; rfl))))) (by simp [World.setCell]) (fun k hk _ => Below.heap_setCell _ _ _ _ hk) (own_set h.rl (by rw [h1]; rfl))
    (own_heap h.rt (fun k hk => Below.heap_setCell _ _ _ _ (fun e => h.lt b' (by rw [h1]; rfl) (by rw [hk]; exact congrArg some e))))
theorem GT.setTree (h : GT w K0 base g n Bd D L T tot fst vd vl vt vs vm pv pm) {b i : Nat} (hb : vt.ownBlock = some b) (hi : i < n) (x : Nat) : GT (w.setCell ⟨b, i, none⟩ (.int .i64 (x : Int))) K0 base g n Bd D L (upd T i x) tot fst vd vl vt vs vm pv pm := by
  obtain ⟨b', cc, cur, h1, -, -, h4, -⟩ := own_cell h.rt (nl_get T hi)
  rw [h1] at hb
  simp [Value.ownBlock] at hb
  subst hb
  exact h.others h4 (.inr (.inr (.inr (.inr (.inl (by rw [h1]; rfl)))))) (by simp [World.setCell]) (fun k hk _ => Below.heap_setCell _ _ _ _ hk)
    (own_heap h.rl (fun k hk => Below.heap_setCell _ _ _ _ (fun e => h.lt b' (by rw [hk]; exact congrArg some e) (by rw [h1]; rfl)))) (own_set h.rt (by rw [h1]; rfl))

/-- The sums' row: block, offset, what Add is told. -/
theorem GT.sumAt (h : GT w K0 base g n Bd D L T tot fst vd vl vt vs vm pv pm) {j : Nat} (hj : j < n) : ∃ sb cap c x p, vs = .slice (some ⟨sb, 0, none⟩) n cap ∧ w.heap[sb]? = some (.cells c 73 (0, 0)) ∧ KS K0 g vd vl vt vs sb ∧ c[j * 3]? = some (pv j) ∧ c[j * 3 + 1]? = some (.float .f64 x) ∧ c[j * 3 + 2]? = some (.bool p) := by
  obtain ⟨xs, hx1, hx2⟩ := h.rs
  obtain ⟨x, p, e0, e1, e2⟩ := hx2 j hj
  obtain ⟨b, cc, cur, h1, -, -, h4, h5, -⟩ := own_cell hx1 e0
  obtain ⟨b1, cc1, cur1, g1, -, -, g4, g5, -⟩ := own_cell hx1 e1
  obtain ⟨b2, cc2, cur2, f1, -, -, f4, f5, -⟩ := own_cell hx1 e2
  rw [h1] at g1 f1
  cases g1
  cases f1
  rw [h4] at g4 f4
  cases g4
  cases f4
  exact ⟨b, cc, cur, x, p, h1, h4, .inr (.inr (.inr (.inr (.inr (by rw [h1]; rfl))))), h5, g5, f5⟩
theorem GT.kall (h : GT w K0 base g n Bd D L T tot fst vd vl vt vs vm pv pm) : ∀ b, KS K0 g vd vl vt vs b → b < w.heap.size := fun b hb => by
  rcases hb with hb | rfl | hb | hb | hb | hb
  · exact h.kl b hb
  · exact lt_of_heap h.hg
  · exact (h.rd.lt b hb).2
  · exact (h.rl.lt b hb).2
  · exact (h.rt.lt b hb).2
  · obtain ⟨xs, hx, _⟩ := h.rs; exact (hx.lt b hb).2

theorem GT.added {w' : World} (h : GT w K0 base g n Bd D L T tot fst vd vl vt vs vm pv pm) {j sb cap : Nat} {c : Array Value} (hj : j < n) (hv : vs = .slice (some ⟨sb, 0, none⟩) n cap) (hc : w.heap[sb]? = some (.cells c 73 (0, 0))) (ha : Added (KS K0 g vd vl vt vs) sb (j * 3) (pm j) 73 c w w') {Bd' : Nat → Nat} (hB : ∀ i, i < n → Bd i ≤ Bd' i) (hB2 : Bd j + 1 ≤ Bd' j) :
    ∃ pv' pm', GT w' K0 base g n Bd' D L T tot fst vd vl vt vs vm pv' pm' ∧ Keep K0 w w' := by
  obtain ⟨v', x', p', m', hm, hh, hr, hk⟩ := ha
  have hsb : ∀ b, K0 b → b ≠ sb := fun b hb e => (h.nk b hb).2.2.2.2 (by rw [hv, e]; rfl)
  have hkeep : ∀ b, KS K0 g vd vl vt vs b → b ≠ sb → w'.heap[b]? = w.heap[b]? := fun b hb hne => hk.keep b ⟨hb, hne⟩
  obtain ⟨xs, hx1, hx2⟩ := h.rs
  have hne : ∀ {e : TypeId} {size : Nat} {v : Value} {xs : List Value}, w.ownsRow base e size v n xs → (73 : TypeId) ≠ e → ∀ b, v.ownBlock = some b → b ≠ sb := fun {e size v xs} hr he b hb e' => own_ne hr hc he (e' ▸ hb)
  have hgb : g ≠ sb := fun e => by have := h.hg; rw [e, hc] at this; simp at this
  have hf : ∀ {v : Value} {k : Nat}, FRow w (KS K0 g vd vl vt vs) v k → FRow w' (KS K0 g vd vl vt vs) v k := fun {v k} hr => hr.chg' hk (fun b hb => hb.1)
  obtain ⟨k, hm2⟩ := h.rm
  refine ⟨upd pv j v', upd pm j m', ?_, ⟨hk.os, hk.tape, hk.output, hk.size, fun b hb => hk.keep b ⟨.inl hb, hsb b hb⟩⟩⟩
  exact
    { hg := (hkeep g (.inr (.inl rfl)) hgb).trans h.hg
      rd := own_heap h.rd (fun b hb => hkeep b (.inr (.inr (.inl hb))) (hne h.rd (by decide) b hb))
      rl := own_heap h.rl (fun b hb => hkeep b (.inr (.inr (.inr (.inl hb)))) (hne h.rl (by decide) b hb))
      rt := own_heap h.rt (fun b hb => hkeep b (.inr (.inr (.inr (.inr (.inl hb))))) (hne h.rt (by decide) b hb))
      rs := by
        rcases hx1.2 with ⟨h1, _⟩ | ⟨b, cp, cur, h1, h2, h3, h4, h5, h6, h7⟩
        · rw [hv] at h1; cases h1
        · rw [hv] at h1
          cases h1
          rw [hc] at h3
          cases h3
          refine ⟨_, ⟨?_, .inr ⟨sb, cap, _, hv, h2, hh, h4, h5, by simp [h6], rfl⟩⟩, fun i hi => ?_⟩
          · simp only [List.length_take, Array.length_toList, Array.size_setIfInBounds, h6]
            have := Nat.mul_le_mul_right 3 h4
            omega
          · obtain ⟨x, p, e0, e1, e2⟩ := hx2 i hi
            have get : ∀ o y, o < n * 3 → xs[o]? = some y → c[o]? = some y := fun o y ho hy => by
              rw [← h7, List.getElem?_take, if_pos ho] at hy
              simpa using hy
            have E0 := get _ _ (by omega) e0
            have E1 := get _ _ (by omega) e1
            have E2 := get _ _ (by omega) e2
            have S0 := (Array.getElem?_eq_some_iff.1 E0).1
            have S1 := (Array.getElem?_eq_some_iff.1 E1).1
            have S2 := (Array.getElem?_eq_some_iff.1 E2).1
            have rd : ∀ o, o < n * 3 → ((((c.setIfInBounds (j * 3) v').setIfInBounds (j * 3 + 1) (.float .f64 x')).setIfInBounds (j * 3 + 2) (.bool p')).toList.take (n * 3))[o]? = (((c.setIfInBounds (j * 3) v').setIfInBounds (j * 3 + 1) (.float .f64 x')).setIfInBounds (j * 3 + 2) (.bool p'))[o]? := fun o ho => by
              rw [List.getElem?_take, if_pos ho, Array.getElem?_toList]
            rw [rd _ (by omega), rd _ (by omega), rd _ (by omega)]
            simp only [Array.getElem?_setIfInBounds, Array.size_setIfInBounds]
            by_cases hij : i = j
            · subst hij
              refine ⟨x', p', ?_, ?_, ?_⟩
              · rw [upd_at]; simp; omega
              · simp; omega
              · simp; omega
            · refine ⟨x, p, ?_, ?_, ?_⟩
              · rw [upd_ne _ _ hij, if_neg (by omega), if_neg (by omega), if_neg (by omega)]; exact E0
              · rw [if_neg (by omega), if_neg (by omega), if_neg (by omega)]; exact E1
              · rw [if_neg (by omega), if_neg (by omega), if_neg (by omega)]; exact E2
      rp := fun i hi => by
        by_cases hij : i = j
        · subst hij
          rw [upd_at, upd_at]
          have := (h.rp i hi).2
          exact ⟨hr, by omega⟩
        · rw [upd_ne _ _ hij, upd_ne _ _ hij]
          exact ⟨hf (h.rp i hi).1, Nat.le_trans (h.rp i hi).2 (hB i hi)⟩
      rm := ⟨k, hf hm2⟩
      lt := h.lt, nk := h.nk, bg := h.bg
      kl := fun b hb => Nat.lt_of_lt_of_le (h.kl b hb) hk.size
      k0 := h.k0, kb := Nat.le_trans h.kb hk.size }

/-! ### The chain of nodes that cover a group -/
theorem node_dec_cover {L : Nat → Nat} {i k : Nat} (hi : 0 < L i) (h0 : k - low k ≤ i) (h1 : i < k) : node (dec L i) k = node L k - 1 ∧ 0 < node L k := by
  have := sm_dec L i (k - low k) k hi
  rw [if_pos ⟨h0, h1⟩] at this
  exact ⟨this.1, this.2 ⟨h0, h1⟩⟩
theorem node_dec_other {L : Nat → Nat} {i k : Nat} (hi : 0 < L i) (h : ¬ (k - low k ≤ i ∧ i < k)) : node (dec L i) k = node L k := by
  have := sm_dec L i (k - low k) k hi
  rw [if_neg h] at this
  have h1 := this.1
  rw [Nat.sub_zero] at h1
  exact h1
/-- The tree behind the nodes below k. -/
def part (L : Nat → Nat) (i k : Nat) : Nat → Nat := fun j => if j + 1 < k then node (dec L i) (j + 1) else node L (j + 1)
theorem part_start {L : Nat → Nat} {i : Nat} (hi : 0 < L i) : part L i (i + 1) = fun j => node L (j + 1) := by
  funext j
  unfold part
  split
  · exact node_dec_other hi (by omega)
  · rfl
theorem part_step {L : Nat → Nat} {i k : Nat} (hi : 0 < L i) (h0 : k - low k ≤ i) (h1 : i < k) : part L i (k + low k) = upd (part L i k) (k - 1) (node L k - 1) := by
  funext j
  by_cases hj : j = k - 1
  · subst hj
    rw [upd_at]
    unfold part
    rw [show k - 1 + 1 = k by omega, if_pos (by have := low_pos k (by omega); omega)]
    exact (node_dec_cover hi h0 h1).1
  · rw [upd_ne _ _ hj]
    unfold part
    by_cases hk : j + 1 < k
    · rw [if_pos hk, if_pos (by omega)]
    · rw [if_neg hk]
      split
      · refine node_dec_other hi (fun hc => ?_)
        have hb := low_behind (m := k) (B := k) (r := j + 1 - k) (by omega) (low_pos k (by omega)).2.2 (by omega) (by omega)
        rw [show k + (j + 1 - k) = j + 1 by omega] at hb
        omega
      · rfl
theorem part_end {L : Nat → Nat} {i k n : Nat} (h : n < k) : ∀ j, j < n → part L i k j = node (dec L i) (j + 1) := fun j hj => by
  unfold part
  rw [if_pos (by omega)]

def BdE (s k : Nat) : Nat → Nat := fun j => if j + 1 < k then (s + 4) * low (j + 1) else (s + 3) * low (j + 1)

theorem run_fneg {P : Program} (a : Nat) (w : World) : (Op.unary .neg (.float .f64 a)).run P w = .ok (.float .f64 (Op.negFloat .f64 a)) w := rfl
attribute [local go_sem ↓] run_fadd run_fsub run_fmul run_fneg
attribute [local go_sem] fbits ffrom run_store_float setCell_drewN alloc_drewN

/-- What end leaves. -/
def Ended (K0 : Nat → Prop) (base g n s : Nat) (D : Nat → Int) (L : Nat → Nat) (fst : Nat) (w w' : World) : Prop := ∃ vd vl vt vs vm pv pm, GS w' K0 base g n s D L fst vd vl vt vs vm pv pm ∧ Keep K0 w w'

set_option maxRecDepth 100000 in
set_option maxHeartbeats 2000000 in
theorem end_any (i s : Nat) (hi : i < n) (hn : n ≤ 4096) (hs : s ≤ 4096) (hL : ∀ i, i < n → L i ≤ 5) (hLi : 0 < L i) (h : GS w K0 base g n s D L fst vd vl vt vs vm pv pm) :
    Calls Ybad.prog 11 #[.pointer (some ⟨g, 0, none⟩), .int .i64 i] w fun e w' => e = .returned (.tuple #[]) ∧ Ended K0 base g n (s + 1) D (dec L i) fst w w' := by
  obtain ⟨bl, cl, curl, hvl, l2, l3, l4, -⟩ := own_cell h.rl (nl_get L hi)
  obtain ⟨a2, d2, hvt⟩ := own_form h.rt
  have c1 : w.cell? ⟨g, 1, none⟩ = some (.slice (some ⟨bl, 0, none⟩) n cl) := by rw [← hvl]; exact cell_heap h.hg rfl
  have hw1 := h.setLive (b := bl) (i := i) (by rw [hvl]; rfl) hi (L i - 1)
  rw [← dec_upd] at hw1
  obtain ⟨w1, hW1⟩ : ∃ x, x = w.setCell ⟨bl, i, none⟩ (.int .i64 ((L i - 1 : Nat) : Int)) := ⟨_, rfl⟩
  rw [← hW1] at hw1
  have hng : ∀ b, K0 b → b ≠ bl := fun b hb e => (h.nk b hb).2.2.1 (by rw [hvl, e]; rfl)
  have hng' : ¬ K0 g := fun hb => (h.nk g hb).1 rfl
  have hk1 : Keep K0 w w1 := by rw [hW1]; exact Keep.set (fun hb => hng bl hb rfl) _
  have hsum := sm_dec L i 0 n hLi
  rw [if_pos ⟨Nat.zero_le _, hi⟩] at hsum
  have hpos := hsum.2 ⟨Nat.zero_le _, hi⟩
  have hsm := sm_small hL hn 0 n (Nat.le_refl _)
  have g5 := heap_setCell_same (o := 5) hw1.hg (.int .i64 ((sm (dec L i) 0 n : Nat) : Int))
  obtain ⟨w2, hW2⟩ : ∃ x, x = w1.setCell ⟨g, 5, none⟩ (.int .i64 ((sm (dec L i) 0 n : Nat) : Int)) := ⟨_, rfl⟩
  rw [← hW2] at g5
  have hw2 : GT w2 K0 base g n (BdE s (i + 1)) D (dec L i) (part L i (i + 1)) (sm (dec L i) 0 n) fst vd vl vt vs vm pv pm := by
    have h2 := hw1.turn (w' := w2) (tot' := sm (dec L i) 0 n) (fst' := fst) (by rw [hW2]; simp [World.setCell]) (fun b hb _ => by rw [hW2]; exact Below.heap_setCell _ _ _ _ hb) g5
    rw [part_start hLi]
    exact { h2 with rp := fun j hj => ⟨(h2.rp j hj).1, Nat.le_trans (h2.rp j hj).2 (by unfold BdE; split; exact Nat.mul_le_mul_right _ (by omega); exact Nat.le_refl _)⟩ }
  have hk2 : Keep K0 w w2 := hk1.trans (by rw [hW2]; exact Keep.set hng' _)
  have c5 : w1.cell? ⟨g, 5, none⟩ = some (.int .i64 ((sm L 0 n : Nat) : Int)) := cell_heap hw1.hg rfl
  have q5 := frozen_heap (o := 5) hw1.hg
  have e1 : ((L i : Int) - 1) = ((L i - 1 : Nat) : Int) := by omega
  have e2 : ((sm L 0 n : Nat) : Int) - 1 = ((sm (dec L i) 0 n : Nat) : Int) := by rw [hsum.1]; omega
  have hLb := hL i hi
  have x1 : IntKind.i64.wrap ((L i : Int) - 1) = (L i : Int) - 1 := by rw [IntKind.wrap_i64]; omega
  have x2 : IntKind.i64.wrap (((sm L 0 n : Nat) : Int) - 1) = ((sm L 0 n : Nat) : Int) - 1 := by rw [IntKind.wrap_i64]; omega
  have i0 : (0 : Int) ≤ (i : Int) := by omega
  have i1 : (i : Int) < (n : Int) := by omega
  have HW2 := Hid.mk hw2
  have HK2 := Hid.mk hk2
  have HVT := Hid.mk hvt
  have HL := Hid.mk hL
  have HE1 := Hid.mk e1
  have HE2 := Hid.mk e2
  have HWE1 := Hid.mk hW1
  have HWE2 := Hid.mk hW2
  clear h hw1 hk1 hsum hpos hsm g5 hw2 hk2 l4 hvl hvt hL e1 e2 hW1 hW2 hng
  go_enter Ybad.func11, Ybad.ntmps11
  go_upto_region 1 with fail
  rw [HE1.out, ← HWE1.out]
  clear c1 l2 l3
  go_upto_region 2 with fail
  rw [HE2.out, ← HWE2.out]
  clear c5 q5 x1 x2 HE1 HE2 HWE1 HWE2
  go_wp2_with fail
  go_loopw [4] (fun kk wr => ∃ (k : Nat) (pv : Nat → Value) (pm : Nat → Nat), kk = .int .i64 (k : Int) ∧ i < k ∧ k - low k ≤ i ∧ k ≤ 8192 ∧ GT wr K0 base g n (BdE s k) D (dec L i) (part L i k) (sm (dec L i) 0 n) fst vd vl vt vs vm pv pm ∧ Keep K0 w wr) (fun kk _ => 9000 - (intOf kk).toNat)
  case atStart => exact ⟨i + 1, pv, pm, by go_num, by omega, by have := low_pos (i + 1) (by omega); omega, by omega, HW2.out, HK2.out⟩
  case round =>
    obtain ⟨k, pv', pm', rfl, hk1, hk2, hk3, hgt, hkp⟩ := hrel
    have c2 : wr.cell? ⟨g, 2, none⟩ = some (.slice a2 n d2) := by rw [← HVT.out]; exact cell_heap hgt.hg rfl
    by_cases hkn : k ≤ n
    · have hN : part L i k (k - 1) = node L k := by unfold part; rw [if_neg (by omega), show k - 1 + 1 = k by omega]
      have hNd := node_dec_cover hLi hk2 hk1
      have hNs : node L k ≤ 20480 := sm_small HL.out hn _ _ hkn
      obtain ⟨bt, ct, curt, t1, t2, t3, t4, -⟩ := own_cell hgt.rt (nl_get (part L i k) (show k - 1 < n by omega))
      rw [hN] at t2
      have hvt' := t1
      rw [HVT.out] at t1
      cases t1
      have hstep := hgt.setTree (b := bt) (i := k - 1) (by rw [hvt']; rfl) (by omega) (node L k - 1)
      rw [← part_step hLi hk2 hk1] at hstep
      obtain ⟨N, hNN⟩ : ∃ N, node L k = N := ⟨_, rfl⟩
      rw [hNN] at t2 hNd hNs hstep
      obtain ⟨wt, hwt⟩ : ∃ x, x = wr.setCell ⟨bt, k - 1, none⟩ (.int .i64 ((N - 1 : Nat) : Int)) := ⟨_, rfl⟩
      rw [← hwt] at hstep
      have hkt : Keep K0 w wt := hkp.trans (by rw [hwt]; exact Keep.set (fun hb => (hgt.nk bt hb).2.2.2.1 (by rw [hvt']; rfl)) _)
      obtain ⟨sb, cs, csum, xx, pp, hvs, hsb, hsK, s0, s1, s2⟩ := hstep.sumAt (show k - 1 < n by omega)
      obtain ⟨bd, cd, curd, hvd, u2, -, -, -⟩ := own_cell hstep.rd (fl_get D hi)
      have y0 : wt.cell? ⟨g, 0, none⟩ = some (.slice (some ⟨bd, 0, none⟩) n cd) := by rw [← hvd]; exact cell_heap hstep.hg rfl
      have y3 : wt.cell? ⟨g, 3, none⟩ = some (.slice (some ⟨sb, 0, none⟩) n cs) := by rw [← hvs]; exact cell_heap hstep.hg rfl
      have hlow := bits_low k (by omega) (by omega)
      obtain ⟨hl0, hl1, -⟩ := low_pos k (by omega)
      have hup := low_up (k := k) (by omega)
      obtain ⟨l, hl⟩ : ∃ l, low k = l := ⟨_, rfl⟩
      have HLW := Hid.mk hl
      have z0 : (0 : Int) ≤ (k : Int) - 1 := by omega
      have z1 : (k : Int) - 1 < (n : Int) := by omega
      have z2 : ((k : Int) - 1).toNat = k - 1 := by omega
      have z3 : (1 : Int) ≤ (k : Int) := by omega
      have z4 : (k : Int) ≤ (n : Int) := by omega
      have z5 : (N : Int) - 1 = ((N - 1 : Nat) : Int) := by omega
      have z6 : IntKind.i64.wrap ((k : Int) - 1) = (k : Int) - 1 := by rw [IntKind.wrap_i64]; omega
      have HZ5 := Hid.mk z5
      have HGT := Hid.mk hstep
      have HKT := Hid.mk hkt
      have HWT := Hid.mk hwt
      have HSB := Hid.mk hsb
      have HSK := Hid.mk hsK
      have HS0 := Hid.mk s0
      have HS1 := Hid.mk s1
      have HS2 := Hid.mk s2
      have HVS := Hid.mk hvs
      have HUP := Hid.mk hup
      rw [hl] at hlow hl0 hl1
      clear hgt hkp hN hNN hstep hwt hkt hsb hsK s0 s1 s2 hvs hvd t4 z5 hl hup hvt'
      go_upto_region 6 with fail
      rw [HZ5.out, ← HWT.out]
      clear t2 t3 c2
      refine wp_region_pick [0, 1, 2, 3, 4, 5, 6, 7, 8, 9, 10, 11, 12, 13, 14] [15] [0, 1, 2, 3, 4, 5, 6, 7, 8, 9, 10, 11, 12, 13, 14] (fun w' => w'.cell? ⟨g, 0, none⟩ = some (.slice (some ⟨bd, 0, none⟩) n cd) ∧ w'.cell? ⟨g, 3, none⟩ = some (.slice (some ⟨sb, 0, none⟩) n cs) ∧ w'.cell? ⟨bd, i, none⟩ = some (.float .f64 (fi (D i)))) (by kernel_rfl) (by kernel_rfl) (fun _ _ d _ _ h => by cases d <;> exact h) ⟨y0, y3, u2⟩ ?_
      iterate 15 (refine wpHead_cons (v := ?_) rfl (by rfl) ?_ ?_; rotate_left 1; (focus (rintro w0 ⟨s1, s2, s3⟩; go_simp; first | done | with_reducible rfl)); simp only [Act.put, List.setIfInBounds_toArray, List.set_cons_zero, List.set_cons_succ])
      refine wpHead_nil ?_
      refine wpTail_list _ _ _ rfl ?_
      simp only [List.filterMap_cons, List.filterMap_nil, List.getElem?_cons_succ, List.getElem?_cons_zero]
      go_wp2_with fail
      obtain ⟨wu, hwu⟩ : ∃ x, x = wt.drew := ⟨_, rfl⟩
      rw [← hwu]
      have hgu : GT wu K0 base g n (BdE s k) D (dec L i) (part L i (k + low k)) (sm (dec L i) 0 n) fst vd vl vt vs vm pv' pm' := by rw [hwu]; exact HGT.out.drewN 1
      have hsu : wu.heap[sb]? = some (.cells csum 73 (0, 0)) := by rw [hwu]; exact HSB.out
      have hku : Keep K0 w wu := HKT.out.trans (by rw [hwu]; exact ⟨rfl, rfl, rfl, Nat.le_refl _, fun _ _ => rfl⟩)
      have HGU := Hid.mk hgu
      have HKU := Hid.mk hku
      have HSU := Hid.mk hsu
      clear hwu hgu hsu hku y0 y3 u2
      refine (add_any (KS K0 g vd vl vt vs) sb ((k - 1) * 3) 73 csum (pv' (k - 1)) xx (pm' (k - 1)) _ pp wu (by decide) HSU.out HSK.out HS0.out HS1.out HS2.out (HGU.out.rp (k - 1) (by omega)).1 HGU.out.kall (by
        have := (HGU.out.rp (k - 1) (by omega)).2
        have hbd : BdE s k (k - 1) ≤ 40000000 := by
          unfold BdE
          rw [if_neg (by omega), show k - 1 + 1 = k by omega]
          calc (s + 3) * low k ≤ 4099 * 4096 := Nat.mul_le_mul (by omega) (by rw [HLW.out]; omega)
            _ ≤ 40000000 := by decide
        omega)).mono ?_
      rintro e wx ⟨rfl, hadd⟩
      have HNX : Hid (∃ pv'' pm'', GT wx K0 base g n (BdE s (k + low k)) D (dec L i) (part L i (k + low k)) (sm (dec L i) 0 n) fst vd vl vt vs vm pv'' pm'' ∧ Keep K0 wu wx) := HGU.out.added (show k - 1 < n by omega) HVS.out HSU.out hadd (Bd' := BdE s (k + low k)) (fun j hj => by
          unfold BdE
          split
          · rw [if_pos (by omega)]; exact Nat.le_refl _
          · split
            · exact Nat.mul_le_mul_right _ (by omega)
            · exact Nat.le_refl _) (by
          unfold BdE
          rw [if_neg (by omega), if_pos (by rw [HLW.out]; omega), show k - 1 + 1 = k by omega, HLW.out]
          calc (s + 3) * l + 1 ≤ (s + 3) * l + l := by omega
            _ = (s + 4) * l := by rw [show s + 4 = (s + 3) + 1 by omega, Nat.add_mul (s + 3) 1 l, Nat.one_mul])
      clear hadd
      go_wp2_with fail
      go_roundw
      case rel =>
        obtain ⟨pv'', pm'', h1, h2⟩ := HNX.out
        refine ⟨k + l, pv'', pm'', by go_num, by omega, ?_, by omega, ?_, HKU.out.trans h2⟩
        · have := HUP.out
          rw [HLW.out] at this
          have hlk := HLW.out
          omega
        · have := h1
          rw [HLW.out] at this
          exact this
      case measure => simp [intOf]; omega
    · have z4 : ¬ ((k : Int) ≤ (n : Int)) := by omega
      have z5 : decide ((k : Int) ≤ (n : Int)) = false := by simp; omega
      have HGT := Hid.mk hgt
      have HKP := Hid.mk hkp
      clear hgt hkp
      go_wp2_with fail
      go_end0
      refine ⟨rfl, vd, vl, vt, vs, vm, pv', pm', ?_, HKP.out⟩
      have hh := HGT.out
      exact { hh with
        rt := by
          have := hh.rt
          rw [nl_congr (part_end (L := L) (i := i) (show n < k by omega))] at this
          exact this
        rp := fun j hj => ⟨(hh.rp j hj).1, by have := (hh.rp j hj).2; unfold BdE at this; rw [if_pos (by omega)] at this; exact this⟩ }
end
end Go.Proofs.YbulkdzeiDoor.C
