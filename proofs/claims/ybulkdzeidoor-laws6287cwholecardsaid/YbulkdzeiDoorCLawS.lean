/-
  THE LAW S6287C: the state of its script loop.
-/
import Derived.Test.YbulkdzeiDoorCAdd1
import Derived.Test.YbulkdzeiDoorCPoss
import Derived.Test.YbulkdzeiDoorCEq
namespace Go.Proofs.YbulkdzeiDoor.C
open Go Go.RowKit

section
variable {w w' : World} {K0 : Nat → Prop} {base g n tot fst : Nat} {Bd : Nat → Nat} {D : Nat → Int} {L T : Nat → Nat} {vd vl vt vs vm : Value} {pv : Nat → Value} {pm : Nat → Nat}

/-- Blocks of K0 are written, blocks are made, K0 is taken anew. -/
theorem GT.rekey {K0' : Nat → Prop} (h : GT w K0 base g n Bd D L T tot fst vd vl vt vs vm pv pm) (hs : w.heap.size ≤ w'.heap.size) (hk : ∀ b, b < w.heap.size → ¬ K0 b → w'.heap[b]? = w.heap[b]?) (h1 : ∀ b, b < w.heap.size → K0' b → K0 b) (h2 : ∀ b, b < base → K0' b) (h3 : ∀ b, K0' b → b < w'.heap.size) :
    GT w' K0' base g n Bd D L T tot fst vd vl vt vs vm pv pm := by
  have hng : ¬ K0 g := fun hb => (h.nk g hb).1 rfl
  have hglt := lt_of_heap h.hg
  obtain ⟨xs, hx1, hx2⟩ := h.rs
  obtain ⟨k, hm⟩ := h.rm
  have hks : ∀ b, b < w.heap.size → KS K0' g vd vl vt vs b → KS K0 g vd vl vt vs b := fun b hb hh => by
    rcases hh with hh | hh
    · exact .inl (h1 b hb hh)
    · exact .inr hh
  have hf : ∀ {v : Value} {k : Nat}, FRow w (KS K0 g vd vl vt vs) v k → FRow w' (KS K0' g vd vl vt vs) v k := fun {v k} hr => by
    rcases hr with e1 | ⟨b, cap, e1, e2, e3, e4, c, e5, e6⟩
    · exact .inl e1
    · have hlt := lt_of_heap e5
      exact .inr ⟨b, cap, e1, e2, e3, fun hh => e4 (hks b hlt hh), c, (hk b hlt (fun hh => e4 (.inl hh))).trans e5, e6⟩
  exact
    { hg := (hk g hglt hng).trans h.hg
      rd := own_heap h.rd (fun b hb => hk b (h.rd.lt b hb).2 (fun hh => (h.nk b hh).2.1 hb))
      rl := own_heap h.rl (fun b hb => hk b (h.rl.lt b hb).2 (fun hh => (h.nk b hh).2.2.1 hb))
      rt := own_heap h.rt (fun b hb => hk b (h.rt.lt b hb).2 (fun hh => (h.nk b hh).2.2.2.1 hb))
      rs := ⟨xs, own_heap hx1 (fun b hb => hk b (hx1.lt b hb).2 (fun hh => (h.nk b hh).2.2.2.2 hb)), hx2⟩
      rp := fun i hi => ⟨hf (h.rp i hi).1, (h.rp i hi).2⟩
      rm := ⟨k, hf hm⟩
      lt := h.lt
      nk := fun b hb => by
        refine ⟨fun e => hng (h1 g hglt (e ▸ hb)), fun e => ?_, fun e => ?_, fun e => ?_, fun e => ?_⟩
        · exact (h.nk b (h1 b (h.rd.lt b e).2 hb)).2.1 e
        · exact (h.nk b (h1 b (h.rl.lt b e).2 hb)).2.2.1 e
        · exact (h.nk b (h1 b (h.rt.lt b e).2 hb)).2.2.2.1 e
        · exact (h.nk b (h1 b (hx1.lt b e).2 hb)).2.2.2.2 e
      bg := h.bg, kl := h3, k0 := h2, kb := Nat.le_trans h.kb hs }
end

/-- What the calls on g must keep: the old world, and the law's own two rows. -/
def KL (B : Nat) (dl lv : Value) (b : Nat) : Prop := b < B ∨ dl.ownBlock = some b ∨ lv.ownBlock = some b

structure LS (w wr : World) (j n : Nat) (D : Nat → Int) (L : Nat → Nat) (fst : Nat) (dl lv : Value) (d : Int) : Prop where
  gs : ∃ vd vl vt vs vm pv pm, GS wr (KL w.heap.size dl lv) w.heap.size w.heap.size n j D L fst vd vl vt vs vm pv pm
  rd : wr.ownsRow w.heap.size 24 1 dl n (fl D n)
  rl : wr.ownsRow w.heap.size 3 1 lv n (nl L n)
  bel : Below w.heap.size w wr
  nj : n ≤ j
  fn : fst ≤ n
  mo : ∀ i k, i ≤ k → k < n → D i ≤ D k
  dd : ∀ i, i < n → D i ≤ d
  bD : ∀ i, i < n → (D i).natAbs ≤ 200 + 4 * j
  bd : d.natAbs ≤ 200 + 4 * j
  l5 : ∀ i, i < n → L i ≤ 5

section
variable {w wr wx : World} {j n : Nat} {D : Nat → Int} {L : Nat → Nat} {fst : Nat} {dl lv : Value} {d : Int}
theorem GS.weaken {w : World} {K0 : Nat → Prop} {base g n s s' : Nat} {D : Nat → Int} {L : Nat → Nat} {fst : Nat} {vd vl vt vs vm : Value} {pv : Nat → Value} {pm : Nat → Nat} (h : GS w K0 base g n s D L fst vd vl vt vs vm pv pm) (hs : s ≤ s') : GS w K0 base g n s' D L fst vd vl vt vs vm pv pm :=
  { hg := h.hg, rd := h.rd, rl := h.rl, rt := h.rt, rs := h.rs, rp := fun i hi => ⟨(h.rp i hi).1, Nat.le_trans (h.rp i hi).2 (Nat.mul_le_mul_right _ (by omega))⟩, rm := h.rm, lt := h.lt, nk := h.nk, bg := h.bg, kl := h.kl, k0 := h.k0, kb := h.kb }
theorem LS.below (h : LS w wr j n D L fst dl lv d) (hb : Below wr.heap.size wr wx) : LS w wx j n D L fst dl lv d := by
  obtain ⟨vd, vl, vt, vs, vm, pv, pm, hg⟩ := h.gs
  exact
    { h with
      gs := ⟨vd, vl, vt, vs, vm, pv, pm, GT.of_below hg hb⟩
      rd := own_heap h.rd (fun b hb' => hb.block b (h.rd.lt b hb').2)
      rl := own_heap h.rl (fun b hb' => hb.block b (h.rl.lt b hb').2)
      bel := h.bel.trans (hb.mono h.bel.size) }
/-- What is kept is kept. -/
theorem LS.rows {w' : World} (h : LS w wr j n D L fst dl lv d) (hk : Keep (KL w.heap.size dl lv) wr w') : w'.ownsRow w.heap.size 24 1 dl n (fl D n) ∧ w'.ownsRow w.heap.size 3 1 lv n (nl L n) ∧ Below w.heap.size w w' :=
  ⟨own_heap h.rd (fun b hb => hk.keep b (.inr (.inl hb))), own_heap h.rl (fun b hb => hk.keep b (.inr (.inr hb))), h.bel.trans (hk.below (fun _ hb => .inl hb))⟩
theorem LS.idle (h : LS w wr j n D L fst dl lv d) : LS w wr (j + 1) n D L fst dl lv d := by
  obtain ⟨vd, vl, vt, vs, vm, pv, pm, hg⟩ := h.gs
  exact { h with gs := ⟨vd, vl, vt, vs, vm, pv, pm, GS.weaken hg (by omega)⟩, nj := by have := h.nj; omega, bD := fun i hi => by have := h.bD i hi; omega, bd := by have := h.bd; omega }

/-- The script's three ways. -/
theorem LS.passed (h : LS w wr j n D L fst dl lv d) {w' : World} {f' : Nat} (hf : f' ≤ n) {vd vl vt vs vm : Value} {pv : Nat → Value} {pm : Nat → Nat} (hg : GS w' (KL w.heap.size dl lv) w.heap.size w.heap.size n j D L f' vd vl vt vs vm pv pm) (hk : Keep (KL w.heap.size dl lv) wr w') : LS w w' j n D L f' dl lv d := by
  obtain ⟨h1, h2, h3⟩ := h.rows hk
  exact { h with gs := ⟨vd, vl, vt, vs, vm, pv, pm, hg⟩, rd := h1, rl := h2, bel := h3, fn := hf }

theorem KL.lt (h : LS w wr j n D L fst dl lv d) : ∀ b, KL w.heap.size dl lv b → b < wr.heap.size := fun b hb => by
  rcases hb with hb | hb | hb
  · exact Nat.lt_of_lt_of_le hb h.bel.size
  · exact (h.rd.lt b hb).2
  · exact (h.rl.lt b hb).2

/-- One host less, of group i; and in the law's own row. -/
theorem LS.ended (h : LS w wr j n D L fst dl lv d) {w' : World} {i b : Nat} (hb : lv.ownBlock = some b) (he : Ended (KL w.heap.size dl lv) w.heap.size w.heap.size n (j + 1) D (dec L i) fst wr w') : LS w (w'.setCell ⟨b, i, none⟩ (.int .i64 ((L i - 1 : Nat) : Int))) (j + 1) n D (dec L i) fst dl lv d := by
  obtain ⟨vd, vl, vt, vs, vm, pv, pm, hg, hk⟩ := he
  obtain ⟨h1, h2, h3⟩ := h.rows hk
  have hsz : (w'.setCell ⟨b, i, none⟩ (.int .i64 ((L i - 1 : Nat) : Int))).heap.size = w'.heap.size := by simp [World.setCell]
  have hkeep : ∀ b', b' ≠ b → (w'.setCell ⟨b, i, none⟩ (.int .i64 ((L i - 1 : Nat) : Int))).heap[b']? = w'.heap[b']? := fun b' hne => Below.heap_setCell _ _ _ _ hne
  have hbK : KL w.heap.size dl lv b := .inr (.inr hb)
  exact
    { gs := ⟨vd, vl, vt, vs, vm, pv, pm, GT.rekey hg (by omega) (fun b' _ hn => hkeep b' (fun e => hn (e ▸ hbK))) (fun _ _ hh => hh) (fun b' hb' => .inl hb') (fun b' hb' => by rw [hsz]; exact hg.kl b' hb')⟩
      rd := own_heap h1 (fun b' hb' => hkeep b' (fun e => by
        obtain ⟨_, _, _, a4, _⟩ := own_block h2 b hb
        exact own_ne h1 a4 (by decide) (e ▸ hb')))
      rl := by rw [dec_upd]; exact own_set h2 hb
      bel := h3.setCell ((h2.lt b hb).1) _
      nj := by have := h.nj; omega
      fn := h.fn, mo := h.mo, dd := h.dd
      bD := fun i hi => by have := h.bD i hi; omega
      bd := by have := h.bd; omega
      l5 := fun k hk => by
        unfold dec
        split
        · have := h.l5 k hk; omega
        · exact h.l5 k hk }

/-- A group more: both rows appended to, one after the other. -/
theorem LS.added (h : LS w wr j n D L fst dl lv d) {w1 w2 w3 w4 w5 : World} {d' : Int} {m : Nat} {dl' lv' : Value} (hd : d ≤ d') (hd2 : d'.natAbs ≤ 200 + 4 * (j + 1)) (hm : m ≤ 5) (he : Ended (KL w.heap.size dl lv) w.heap.size w.heap.size (n + 1) (j + 1) (upd D n d') (upd L n m) fst wr w1)
    (hb2 : Below w1.heap.size w1 w2) (ho3 : w3.ownsRow w.heap.size 24 1 dl' (n + 1) (fl (upd D n d') (n + 1))) (hg3 : w2.grownBy w3 dl.ownBlock) (ha3 : At w2 dl dl')
    (hb4 : Below w3.heap.size w3 w4) (ho5 : w5.ownsRow w.heap.size 3 1 lv' (n + 1) (nl (upd L n m) (n + 1))) (hg5 : w4.grownBy w5 lv.ownBlock) (ha5 : At w4 lv lv') :
    LS w w5 (j + 1) (n + 1) (upd D n d') (upd L n m) fst dl' lv' d' := by
  obtain ⟨vd, vl, vt, vs, vm, pv, pm, hg, hk⟩ := he
  obtain ⟨h1, h2, h3⟩ := h.rows hk
  have hBz : w.heap.size ≤ w1.heap.size := h3.size
  -- dl appended
  have hg2 := GT.of_below hg hb2
  have h1' : w2.ownsRow w.heap.size 24 1 dl n (fl D n) := own_heap h1 (fun b hb => hb2.block b (h1.lt b hb).2)
  have h2' : w2.ownsRow w.heap.size 3 1 lv n (nl L n) := own_heap h2 (fun b hb => hb2.block b (h2.lt b hb).2)
  have nd : ∀ b, b < w2.heap.size → dl'.ownBlock = some b → dl.ownBlock = some b := fun b hb e => by
    rcases ha3 with e1 | ⟨k, e1, e2⟩
    · rw [← e1]; exact e
    · rw [e1] at e; cases e; omega
  have hg3' : GT w3 (KL w.heap.size dl' lv) _ _ _ _ _ _ _ _ _ vd vl vt vs vm pv pm := GT.rekey hg2 hg3.size (fun b hb hn => hg3.block b hb (fun e => hn (.inr (.inl e.symm)))) (fun b hb hh => by
      rcases hh with hh | hh | hh
      · exact .inl hh
      · exact .inr (.inl (nd b hb hh))
      · exact .inr (.inr hh)) (fun b hb => .inl hb) (fun b hh => by
      rcases hh with hh | hh | hh
      · have := hb2.size; have := hg3.size; omega
      · exact (ho3.lt b hh).2
      · exact Nat.lt_of_lt_of_le (h2'.lt b hh).2 hg3.size)
  have h2'' : w3.ownsRow w.heap.size 3 1 lv n (nl L n) := own_heap h2' (fun b hb => hg3.block b (h2'.lt b hb).2 (fun e => by
    obtain ⟨_, _, _, a4, _⟩ := own_block h2' b hb
    exact own_ne h1' a4 (by decide) e.symm))
  -- lv appended
  have hg4 := GT.of_below hg3' hb4
  have ho4 : w4.ownsRow w.heap.size 24 1 dl' (n + 1) (fl (upd D n d') (n + 1)) := own_heap ho3 (fun b hb => hb4.block b (ho3.lt b hb).2)
  have h4 : w4.ownsRow w.heap.size 3 1 lv n (nl L n) := own_heap h2'' (fun b hb => hb4.block b (h2''.lt b hb).2)
  have nd5 : ∀ b, b < w4.heap.size → lv'.ownBlock = some b → lv.ownBlock = some b := fun b hb e => by
    rcases ha5 with e1 | ⟨k, e1, e2⟩
    · rw [← e1]; exact e
    · rw [e1] at e; cases e; omega
  have ho5' : w5.ownsRow w.heap.size 24 1 dl' (n + 1) (fl (upd D n d') (n + 1)) := own_heap ho4 (fun b hb => hg5.block b (ho4.lt b hb).2 (fun e => by
    obtain ⟨_, _, _, a4, _⟩ := own_block ho4 b hb
    exact own_ne h4 a4 (by decide) e.symm))
  have hg5' : GT w5 (KL w.heap.size dl' lv') _ _ _ _ _ _ _ _ _ vd vl vt vs vm pv pm := GT.rekey hg4 hg5.size (fun b hb hn => hg5.block b hb (fun e => hn (.inr (.inr e.symm)))) (fun b hb hh => by
      rcases hh with hh | hh | hh
      · exact .inl hh
      · exact .inr (.inl hh)
      · exact .inr (.inr (nd5 b hb hh))) (fun b hb => .inl hb) (fun b hh => by
      rcases hh with hh | hh | hh
      · have := hb2.size; have := hg3.size; have := hb4.size; have := hg5.size; omega
      · exact (ho5'.lt b hh).2
      · exact (ho5.lt b hh).2)
  have bel2 : Below w.heap.size w w2 := h3.trans (hb2.mono hBz)
  have bel3 : Below w.heap.size w w3 := bel2.trans ⟨hg3.os, hg3.tape, hg3.output, hg3.size, fun b hb => hg3.block b (by have := bel2.size; omega) (fun e => by have := (h1'.lt b e.symm).1; omega)⟩
  have bel4 : Below w.heap.size w w4 := bel3.trans (hb4.mono bel3.size)
  exact
    { gs := ⟨vd, vl, vt, vs, vm, pv, pm, hg5'⟩
      rd := ho5', rl := ho5
      bel := bel4.trans ⟨hg5.os, hg5.tape, hg5.output, hg5.size, fun b hb => hg5.block b (by have := bel4.size; omega) (fun e => by have := (h4.lt b e.symm).1; omega)⟩
      nj := by have := h.nj; omega
      fn := by have := h.fn; omega
      mo := fun a b hab hb => by
        by_cases hbn : b = n
        · subst hbn
          rw [upd_at]
          by_cases han : a = b
          · subst han; rw [upd_at]; exact Int.le_refl _
          · rw [upd_ne _ _ han]
            have := h.dd a (by omega); omega
        · rw [upd_ne _ _ hbn, upd_ne _ _ (by omega)]
          exact h.mo a b hab (by omega)
      dd := fun a ha => by
        by_cases han : a = n
        · subst han; rw [upd_at]; exact Int.le_refl _
        · rw [upd_ne _ _ han]
          have := h.dd a (by omega); omega
      bD := fun a ha => by
        by_cases han : a = n
        · subst han; rw [upd_at]; exact hd2
        · rw [upd_ne _ _ han]
          have := h.bD a (by omega); omega
      bd := hd2
      l5 := fun a ha => by
        by_cases han : a = n
        · subst han; rw [upd_at]; exact hm
        · rw [upd_ne _ _ han]; exact h.l5 a (by omega) }
end
end Go.Proofs.YbulkdzeiDoor.C
