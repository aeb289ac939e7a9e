/-
  BEHIND ONE ROUND OF THE FILLING LOOP: from the state ahead of queueLocked to the next stage.
-/
import Derived.Test.YbulkdzgmState
namespace Go.Proofs.Ybulkdzgm
open Go Go.RowKit

/-- The dialer ahead of queueLocked in round k: the name is known, the address listed, its pointer laid; it waits in no queue yet. -/
structure Mid (w wr : World) (D mb pb n k : Nat) (X : Nat → Item) (PB f6 f7 : Nat → Nat) (m6 m7 : Nat) (v6 v7 : Value) (Dc Pc c0 : Array Value) : Prop where
  bel : Below w.heap.size w wr
  dd : wr.heap[D]? = some (.cells Dc 38 (0, 0))
  ds : Dc.size = 9
  c4 : Dc[4]? = some (.map (some mb))
  c5 : Dc[5]? = some (.int .i64 (lst X (k + 1)))
  c6 : Dc[6]? = some v6
  c7 : Dc[7]? = some v7
  c8 : Dc[8]? = some (.int .u64 k)
  kn : Known wr mb (k + 1) (names (k + 1)) (k + 1)
  pp : wr.heap[pb]? = some (.cells Pc 41 (0, 0))
  ps : Pc.size = n
  pr : ∀ i, i < k + 1 → Pc[i]? = some (.pointer (some ⟨PB i, 0, none⟩))
  pn : ∀ i, k + 1 ≤ i → i < n → ∃ a, Pc[i]? = some (.pointer a)
  it : ∀ i, i < k → wr.heap[PB i]? = some (.cells ((X i).cells i) 49 (0, 0))
  new : wr.heap[PB k]? = some (.cells c0 49 (0, 0))
  inj : ∀ i j, i < k + 1 → j < k + 1 → PB i = PB j → i = j
  q6 : Half wr w.heap.size k X PB true m6 f6 v6
  q7 : Half wr w.heap.size k X PB false m7 f7 v7
  ne : ∀ b, v6.ownBlock = some b → v7.ownBlock ≠ some b
  n6 : v6.ownBlock ≠ some pb
  n7 : v7.ownBlock ≠ some pb
  lD : w.heap.size ≤ D
  lm : w.heap.size ≤ mb
  lp : w.heap.size ≤ pb
  lP : ∀ i, i < k + 1 → w.heap.size ≤ PB i

theorem mid_done {w wr wq : World} {D mb pb n k : Nat} {X : Nat → Item} {PB f6 f7 : Nat → Nat} {m6 m7 : Nat} {v6 v7 : Value} {Dc Pc c0 : Array Value} (h : Mid w wr D mb pb n k X PB f6 f7 m6 m7 v6 v7 Dc Pc c0)
    (hq : Queued D (if (X k).ans then 6 else 7) (if (X k).ans then m6 else m7) w.heap.size k X PB (if (X k).ans then f6 else f7) k (if (X k).ans then v6 else v7) Dc wr wq) :
    ∃ (g6 g7 : Nat → Nat) (p6 p7 : Nat) (u6 u7 : Value) (Ec : Array Value), St w wq D mb pb n (k + 1) X PB g6 g7 p6 p7 u6 u7 Ec Pc := by
  obtain ⟨v', f', hD, hX, hO, hat, hC, hP, hH⟩ := hq
  have hpl := lt_of_heap h.pp
  have hDl := lt_of_heap h.dd
  have hown : (if (X k).ans then v6 else v7).ownBlock ≠ some D ∧ (if (X k).ans then v6 else v7).ownBlock ≠ some pb ∧ (∀ i, i < k → (if (X k).ans then v6 else v7).ownBlock ≠ some (PB i)) ∧ (if (X k).ans then v6 else v7).ownBlock ≠ some mb ∧ (∀ b, (if (X k).ans then v6 else v7).ownBlock = some b → w.heap.size ≤ b) := by
    have hmb : ∀ {v : Value} {m : Nat} {xs : List Value}, wr.ownsRow w.heap.size 41 1 v m xs → v.ownBlock ≠ some mb := fun {v m xs} ho e => by
      rcases ho.2 with ⟨rfl, _⟩ | ⟨g, cap, cur, rfl, _, h3, _⟩
      · simp [Value.ownBlock] at e
      · simp [Value.ownBlock] at e
        subst e
        exact h.kn.ne h3 rfl
    split
    · exact ⟨own_ne h.q6.own h.dd (by decide), h.n6, fun i hi => own_ne h.q6.own (h.it i hi) (by decide), hmb h.q6.own, fun b hb => (h.q6.own.lt b hb).1⟩
    · exact ⟨own_ne h.q7.own h.dd (by decide), h.n7, fun i hi => own_ne h.q7.own (h.it i hi) (by decide), hmb h.q7.own, fun b hb => (h.q7.own.lt b hb).1⟩
  obtain ⟨o1, o2, o3, o4, o5⟩ := hown
  have hpk : ∀ {i : Nat} {c : Array Value} {t : TypeId}, wr.heap[i]? = some (.cells c t (0, 0)) → t ≠ 49 → i ≠ PB k := fun {i c t} hi ht e => by
    rw [e, h.new] at hi; simp at hi; exact ht hi.2.symm
  have keep : ∀ b, b < wr.heap.size → b ≠ D → b ≠ PB k → (if (X k).ans then v6 else v7).ownBlock ≠ some b → wq.heap[b]? = wr.heap[b]? := fun b hb h1 h2 h3 => hC.block b hb (fun hh => by rcases hh with e | e | e; exact h1 e; exact h2 e; exact h3 e)
  have hpp := (keep pb hpl (fun e => by have h1 := h.pp; rw [e, h.dd] at h1; simp at h1) (hpk h.pp (by decide)) o2).trans h.pp
  have hmbl : mb < wr.heap.size := h.kn.elim (fun _ hh => hh.1.lt)
  have hkn := h.kn.kept (keep mb hmbl (h.kn.ne h.dd) (fun e => h.kn.ne h.new e) o4)
  have hit : ∀ i, i < k + 1 → wq.heap[PB i]? = some (.cells ((X i).cells i) 49 (0, 0)) := fun i hi => by
    by_cases hik : i = k
    · subst hik; exact hX
    · have hi1 := h.it i (by omega)
      exact (keep _ (lt_of_heap hi1) (fun e => by rw [e, h.dd] at hi1; simp at hi1) (fun e => hik (h.inj i k (by omega) (by omega) e)) (o3 i (by omega))).trans hi1
  have hbel : Below w.heap.size w wq := h.bel.trans (hC.below _ h.bel.size (fun b hb => by rcases hb with e | e | e; rw [e]; exact h.lD; rw [e]; exact h.lP k (by omega); exact o5 b e))
  have hat' : v'.ownBlock ≠ some pb ∧ ∀ {u : Value} {m : Nat} {xs : List Value}, wr.ownsRow w.heap.size 41 1 u m xs → (∀ b, (if (X k).ans then v6 else v7).ownBlock = some b → u.ownBlock ≠ some b) → ∀ b, v'.ownBlock = some b → u.ownBlock ≠ some b := by
    rcases hat with e | ⟨x, e, hx⟩
    · exact ⟨by rw [e]; exact o2, fun ho hne b hb => hne b (by rw [← e]; exact hb)⟩
    · refine ⟨by rw [e]; intro e2; cases e2; omega, fun ho _ b hb e2 => ?_⟩
      have := (ho.lt b e2).2
      rw [e] at hb; cases hb; omega
  cases ha : (X k).ans
  · rw [ha] at hO hP hH hD keep o1 o2 o3 hat'
    simp only [Bool.false_eq_true, if_false] at hO hP hH hD keep o1 o2 o3 hat'
    have hq6 : Half wq w.heap.size (k + 1) X PB true m6 f6 v6 := (h.q6.kept (fun b hb => keep b (h.q6.own.lt b hb).2 (fun e => own_ne h.q6.own h.dd (by decide) (e ▸ hb)) (fun e => own_ne h.q6.own h.new (by decide) (e ▸ hb)) (fun e => h.ne b hb e))).other (by rw [ha]; simp)
    have hq7 := h.q7.push ha hO hP hH
    refine ⟨f6, f', m6, m7 + 1, v6, v', (Dc.setIfInBounds 8 (.int .u64 ((k : Int) + 1))).setIfInBounds 7 v', ?_⟩
    exact
      { bel := hbel
        dd := hD
        ds := by simp [h.ds]
        c4 := by rw [Array.getElem?_setIfInBounds_ne (by omega), Array.getElem?_setIfInBounds_ne (by omega)]; exact h.c4
        c5 := by rw [Array.getElem?_setIfInBounds_ne (by omega), Array.getElem?_setIfInBounds_ne (by omega)]; exact h.c5
        c6 := by rw [Array.getElem?_setIfInBounds_ne (by omega), Array.getElem?_setIfInBounds_ne (by omega)]; exact h.c6
        c7 := by simp [h.ds]
        c8 := by rw [Array.getElem?_setIfInBounds_ne (by omega)]; simp [h.ds]
        kn := hkn
        pp := hpp
        ps := h.ps
        pr := h.pr
        pn := h.pn
        it := hit
        inj := h.inj
        q6 := hq6
        q7 := hq7
        ne := fun b hb hb2 => hat'.2 h.q6.own (fun b hb e => h.ne b e hb) b hb2 hb
        n6 := h.n6
        n7 := hat'.1
        lD := h.lD
        lm := h.lm
        lp := h.lp
        lP := h.lP }
  · rw [ha] at hO hP hH hD keep o1 o2 o3 hat'
    simp only [if_true] at hO hP hH hD keep o1 o2 o3 hat'
    have hq7 : Half wq w.heap.size (k + 1) X PB false m7 f7 v7 := (h.q7.kept (fun b hb => keep b (h.q7.own.lt b hb).2 (fun e => own_ne h.q7.own h.dd (by decide) (e ▸ hb)) (fun e => own_ne h.q7.own h.new (by decide) (e ▸ hb)) (fun e => h.ne b e hb))).other (by rw [ha]; simp)
    have hq6 := h.q6.push ha hO hP hH
    refine ⟨f', f7, m6 + 1, m7, v', v7, (Dc.setIfInBounds 8 (.int .u64 ((k : Int) + 1))).setIfInBounds 6 v', ?_⟩
    exact
      { bel := hbel
        dd := hD
        ds := by simp [h.ds]
        c4 := by rw [Array.getElem?_setIfInBounds_ne (by omega), Array.getElem?_setIfInBounds_ne (by omega)]; exact h.c4
        c5 := by rw [Array.getElem?_setIfInBounds_ne (by omega), Array.getElem?_setIfInBounds_ne (by omega)]; exact h.c5
        c6 := by simp [h.ds]
        c7 := by rw [Array.getElem?_setIfInBounds_ne (by omega), Array.getElem?_setIfInBounds_ne (by omega)]; exact h.c7
        c8 := by rw [Array.getElem?_setIfInBounds_ne (by omega)]; simp [h.ds]
        kn := hkn
        pp := hpp
        ps := h.ps
        pr := h.pr
        pn := h.pn
        it := hit
        inj := h.inj
        q6 := hq6
        q7 := hq7
        ne := fun b hb => hat'.2 h.q7.own (fun b hb => h.ne b hb) b hb
        n6 := hat'.1
        n7 := h.n7
        lD := h.lD
        lm := h.lm
        lp := h.lp
        lP := h.lP }

theorem mid_of {w wr wf wm wl : World} {D mb pb n k NB : Nat} {X : Nat → Item} {PB f6 f7 : Nat → Nat} {m6 m7 : Nat} {v6 v7 : Value} {Dc Pc c0 Ec : Array Value} (h : St w wr D mb pb n k X PB f6 f7 m6 m7 v6 v7 Dc Pc) (hk : k < n) (hbf : Below wr.heap.size wr wf) (hNB : wr.heap.size ≤ NB)
    (hnew : wf.heap[NB]? = some (.cells c0 49 (0, 0))) (hgm : (wf.setCell ⟨pb, k, none⟩ (.pointer (some ⟨NB, 0, none⟩))).drew.grownBy wm (some mb)) (hkn : Known wm mb (k + 1) (names (k + 1)) (k + 1))
    (hlD : wl.heap[D]? = some (.cells Ec 38 (0, 0))) (hlo : ∀ b, b ≠ D → wl.heap[b]? = wm.heap[b]?) (hlb : ∀ B, B ≤ D → Below B wm wl) (hE : Ec.size = 9 ∧ Ec[4]? = Dc[4]? ∧ Ec[6]? = Dc[6]? ∧ Ec[7]? = Dc[7]? ∧ Ec[8]? = Dc[8]? ∧ Ec[5]? = some (.int .i64 (lst X (k + 1)))) :
    Mid w wl D mb pb n k X (ext PB k NB) f6 f7 m6 m7 v6 v7 Ec (Pc.setIfInBounds k (.pointer (some ⟨NB, 0, none⟩))) c0 := by
  obtain ⟨e1, e2, e3, e4, e5, e6⟩ := hE
  have hDl := lt_of_heap h.dd
  have hpl := lt_of_heap h.pp
  have hpD : pb ≠ D := fun e => by have h1 := h.pp; rw [e, h.dd] at h1; simp at h1
  have hml : mb < wr.heap.size := h.kn.elim (fun _ hh => hh.1.lt)
  have hmD : mb ≠ D := h.kn.ne h.dd
  have hmp : mb ≠ pb := h.kn.ne h.pp
  have keep : ∀ b, b ≠ D → b ≠ mb → b ≠ pb → b < wf.heap.size → wl.heap[b]? = wf.heap[b]? := fun b h1 h2 h3 h4 =>
    (hlo b h1).trans ((hgm.block b (by simp [World.setCell]; exact h4) (fun e => h2 (by cases e; rfl))).trans (Below.heap_setCell _ _ _ _ h3))
  have keepr : ∀ b, b < wr.heap.size → b ≠ D → b ≠ mb → b ≠ pb → wl.heap[b]? = wr.heap[b]? := fun b h0 h1 h2 h3 => (keep b h1 h2 h3 (Nat.lt_of_lt_of_le h0 hbf.size)).trans (hbf.block b h0)
  have hNl := lt_of_heap hnew
  have hkb : ∀ {v : Value} {m : Nat} {xs : List Value}, wr.ownsRow w.heap.size 41 1 v m xs → v.ownBlock ≠ some pb → ∀ b, v.ownBlock = some b → wl.heap[b]? = wr.heap[b]? := fun {v m xs} ho hp b hb =>
    keepr b (ho.lt b hb).2 (fun e => own_ne ho h.dd (by decide) (e ▸ hb)) (fun e => by
      rcases ho.2 with ⟨rfl, _⟩ | ⟨g, cap, cur, rfl, _, h3, _⟩
      · simp [Value.ownBlock] at hb
      · simp [Value.ownBlock] at hb
        subst hb
        exact h.kn.ne h3 e.symm) (fun e => hp (e ▸ hb))
  have hppf : wl.heap[pb]? = some (.cells (Pc.setIfInBounds k (.pointer (some ⟨NB, 0, none⟩))) 41 (0, 0)) :=
    (hlo pb hpD).trans ((hgm.block pb (by simp [World.setCell]; exact Nat.lt_of_lt_of_le hpl hbf.size) (fun e => hmp (by cases e; rfl))).trans (heap_setCell_same (heap_below hbf h.pp) _))
  have hne49 : ∀ i, i < k → PB i ≠ D ∧ PB i ≠ mb ∧ PB i ≠ pb := fun i hi => by
    have h1 := h.it i hi
    exact ⟨fun e => by rw [e, h.dd] at h1; simp at h1, fun e => h.kn.ne h1 e.symm, fun e => by rw [e, h.pp] at h1; simp at h1⟩
  exact
    { bel := by
        have g1 : Below w.heap.size w wf := h.bel.trans (hbf.mono h.bel.size)
        have g2 : Below w.heap.size w (wf.setCell ⟨pb, k, none⟩ (.pointer (some ⟨NB, 0, none⟩))).drew := (g1.setCell h.lp _).drew
        have g3 : Below w.heap.size w wm := g2.trans ⟨hgm.os, hgm.tape, hgm.output, hgm.size, fun i hi => hgm.block i (by simp [World.setCell]; have := g1.size; omega) (fun e => by have := h.lm; cases e; omega)⟩
        exact g3.trans (hlb _ h.lD)
      dd := hlD
      ds := e1
      c4 := e2.trans h.c4
      c5 := e6
      c6 := e3.trans h.c6
      c7 := e4.trans h.c7
      c8 := e5.trans h.c8
      kn := hkn.kept (hlo mb hmD)
      pp := hppf
      ps := by simp [h.ps]
      pr := fun i hi => by
        have hps := h.ps
        rw [Array.getElem?_setIfInBounds]
        by_cases hik : k = i
        · subst hik; rw [if_pos rfl, if_pos (by omega), ext_at]
        · rw [if_neg hik, ext_lt PB NB (by omega)]; exact h.pr i (by omega)
      pn := fun i h1 h2 => by
        rw [Array.getElem?_setIfInBounds_ne (by omega)]; exact h.pn i (by omega) h2
      it := fun i hi => by
        rw [ext_lt PB NB hi]
        obtain ⟨a1, a2, a3⟩ := hne49 i hi
        exact (keepr _ (lt_of_heap (h.it i hi)) a1 a2 a3).trans (h.it i hi)
      new := by
        rw [ext_at]
        exact (keep NB (by omega) (by omega) (by omega) hNl).trans hnew
      inj := fun i j hi hj e => by
        by_cases hik : i = k
        · subst hik
          by_cases hjk : j = i
          · exact hjk.symm
          · rw [ext_at, ext_lt PB NB (by omega)] at e
            have := lt_of_heap (h.it j (by omega)); omega
        · by_cases hjk : j = k
          · subst hjk
            rw [ext_at, ext_lt PB NB (by omega)] at e
            have := lt_of_heap (h.it i (by omega)); omega
          · rw [ext_lt PB NB (by omega), ext_lt PB NB (by omega)] at e
            exact h.inj i j (by omega) (by omega) e
      q6 := (h.q6.pb).kept (hkb h.q6.own h.n6)
      q7 := (h.q7.pb).kept (hkb h.q7.own h.n7)
      ne := h.ne
      n6 := h.n6
      n7 := h.n7
      lD := h.lD
      lm := h.lm
      lp := h.lp
      lP := fun i hi => by
        by_cases hik : i = k
        · subst hik; rw [ext_at]; exact Nat.le_trans h.bel.size hNB
        · rw [ext_lt PB NB (by omega)]; exact h.lP i (by omega) }
end Go.Proofs.Ybulkdzgm
