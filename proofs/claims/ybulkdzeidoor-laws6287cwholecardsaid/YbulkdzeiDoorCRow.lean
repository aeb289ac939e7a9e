/-
  THE ROWS of a 'starts' while they are appended to, one after the other.
-/
import Derived.Test.YbulkdzeiDoorCMid
namespace Go.Proofs.YbulkdzeiDoor.C
open Go Go.RowKit

/-- A row of sums. -/
def SRow (w : World) (base : Nat) (vs : Value) (n : Nat) (pv : Nat → Value) : Prop := ∃ xs, w.ownsRow base 73 3 vs n xs ∧ ∀ i, i < n → ∃ x p, xs[i * 3]? = some (pv i) ∧ xs[i * 3 + 1]? = some (.float .f64 x) ∧ xs[i * 3 + 2]? = some (.bool p)

structure GR (w : World) (K0 : Nat → Prop) (base g nd nL nT nS : Nat) (D : Nat → Int) (L T : Nat → Nat) (vd vl vt vs : Value) (pv : Nat → Value) (gcs : Array Value) (FR : Value → Nat → Prop) : Prop where
  hg : w.heap[g]? = some (.cells gcs 52 (0, 0))
  rd : w.ownsRow base 24 1 vd nd (fl D nd)
  rl : w.ownsRow base 3 1 vl nL (nl L nL)
  rt : w.ownsRow base 3 1 vt nT (nl T nT)
  rs : SRow w base vs nS pv
  rf : ∀ v k, FR v k → FRow w (KS K0 g vd vl vt vs) v k
  lt : ∀ b, vl.ownBlock = some b → vt.ownBlock ≠ some b
  nk : ∀ b, K0 b → b ≠ g ∧ vd.ownBlock ≠ some b ∧ vl.ownBlock ≠ some b ∧ vt.ownBlock ≠ some b ∧ vs.ownBlock ≠ some b
  bg : base ≤ g
  kl : ∀ b, K0 b → b < w.heap.size
  k0 : ∀ b, b < base → K0 b
  kb : base ≤ w.heap.size

theorem own_block {w : World} {base n size : Nat} {e : TypeId} {v : Value} {xs : List Value} (h : w.ownsRow base e size v n xs) (b : Nat) (hb : v.ownBlock = some b) : ∃ (cap : Nat) (_ : True) (cur : Array Value), w.heap[b]? = some (.cells cur e (0, 0)) ∧ base ≤ b ∧ v = .slice (some ⟨b, 0, none⟩) n cap := by
  rcases h.2 with ⟨rfl, _⟩ | ⟨g, cap, cur, rfl, h1, h2, _⟩
  · simp [Value.ownBlock] at hb
  · simp [Value.ownBlock] at hb
    subst hb
    exact ⟨cap, trivial, cur, h2, h1, rfl⟩

section
variable {w w' : World} {K0 : Nat → Prop} {base g nd nL nT nS : Nat} {D : Nat → Int} {L T : Nat → Nat} {vd vl vt vs : Value} {pv : Nat → Value} {gcs : Array Value} {FR : Value → Nat → Prop}

theorem GR.kall (h : GR w K0 base g nd nL nT nS D L T vd vl vt vs pv gcs FR) : ∀ b, KS K0 g vd vl vt vs b → b < w.heap.size := fun b hb => by
  rcases hb with hb | rfl | hb | hb | hb | hb
  · exact h.kl b hb
  · exact lt_of_heap h.hg
  · exact (h.rd.lt b hb).2
  · exact (h.rl.lt b hb).2
  · exact (h.rt.lt b hb).2
  · obtain ⟨xs, hx, _⟩ := h.rs; exact (hx.lt b hb).2
theorem GR.below (h : GR w K0 base g nd nL nT nS D L T vd vl vt vs pv gcs FR) (hb : Below w.heap.size w w') : GR w' K0 base g nd nL nT nS D L T vd vl vt vs pv gcs FR := by
  obtain ⟨xs, hx1, hx2⟩ := h.rs
  exact
    { hg := heap_below hb h.hg
      rd := own_heap h.rd (fun b hb' => hb.block b (h.rd.lt b hb').2)
      rl := own_heap h.rl (fun b hb' => hb.block b (h.rl.lt b hb').2)
      rt := own_heap h.rt (fun b hb' => hb.block b (h.rt.lt b hb').2)
      rs := ⟨xs, own_heap hx1 (fun b hb' => hb.block b (hx1.lt b hb').2), hx2⟩
      rf := fun v k hr => (h.rf v k hr).chg (KChg.of_below h.kall hb)
      lt := h.lt, nk := h.nk, bg := h.bg, kl := fun b hb' => Nat.lt_of_lt_of_le (h.kl b hb') hb.size, k0 := h.k0, kb := Nat.le_trans h.kb hb.size }

theorem GR.appD (h : GR w K0 base g nd nL nT nS D L T vd vl vt vs pv gcs FR) {v' : Value} {d : Int} (hr : w'.ownsRow base 24 1 v' (nd + 1) (fl (upd D nd d) (nd + 1))) (hg : w.grownBy w' vd.ownBlock) (ha : At w vd v') :
    GR w' K0 base g (nd + 1) nL nT nS (upd D nd d) L T v' vl vt vs pv gcs FR ∧ Keep K0 w w' := by
  obtain ⟨xs, hx1, hx2⟩ := h.rs
  have hkeep : ∀ b, b < w.heap.size → vd.ownBlock ≠ some b → w'.heap[b]? = w.heap[b]? := fun b hb hne => hg.block b hb (fun e => hne e.symm)
  have hnew : ∀ b, b < w.heap.size → v'.ownBlock = some b → vd.ownBlock = some b := fun b hb e => by
    rcases ha with h1 | ⟨k, h1, h2⟩
    · rw [← h1]; exact e
    · rw [h1] at e; cases e; omega
  have hgne : vd.ownBlock ≠ some g := own_ne h.rd h.hg (by decide)
  have hks : ∀ b, b < w.heap.size → KS K0 g v' vl vt vs b → KS K0 g vd vl vt vs b := fun b hb hk => by
    rcases hk with h1 | h1 | h1 | h1 | h1 | h1
    · exact .inl h1
    · exact .inr (.inl h1)
    · exact .inr (.inr (.inl (hnew b hb h1)))
    · exact .inr (.inr (.inr (.inl h1)))
    · exact .inr (.inr (.inr (.inr (.inl h1))))
    · exact .inr (.inr (.inr (.inr (.inr h1))))
  refine ⟨?_, ⟨hg.os, hg.tape, hg.output, hg.size, fun b hb => hkeep b (h.kl b hb) (h.nk b hb).2.1⟩⟩
  exact
    { hg := (hkeep g (lt_of_heap h.hg) hgne).trans h.hg
      rd := hr
      rl := own_heap h.rl (fun b hb' => hkeep b (h.rl.lt b hb').2 (fun e => by obtain ⟨a1, a2, a3, a4, a5, a6⟩ := own_block h.rl b hb'; exact own_ne h.rd a4 (by decide) e))
      rt := own_heap h.rt (fun b hb' => hkeep b (h.rt.lt b hb').2 (fun e => by obtain ⟨a1, a2, a3, a4, a5, a6⟩ := own_block h.rt b hb'; exact own_ne h.rd a4 (by decide) e))
      rs := ⟨xs, own_heap hx1 (fun b hb' => hkeep b (hx1.lt b hb').2 (fun e => by obtain ⟨a1, a2, a3, a4, a5, a6⟩ := own_block hx1 b hb'; exact own_ne h.rd a4 (by decide) e)), hx2⟩
      rf := fun u k hu => by
        rcases h.rf u k hu with h1 | ⟨b, cap, h1, h2, h3, h4, c, h5, h6⟩
        · exact .inl h1
        · have hlt := lt_of_heap h5
          exact .inr ⟨b, cap, h1, h2, h3, fun hk => h4 (hks b hlt hk), c, (hkeep b hlt (fun e => h4 (.inr (.inr (.inl e))))).trans h5, h6⟩
      lt := h.lt
      nk := fun b hb => by
        obtain ⟨h1, h2, h3, h4, h5⟩ := h.nk b hb
        exact ⟨h1, fun e => h2 (hnew b (h.kl b hb) e), h3, h4, h5⟩
      bg := h.bg, kl := fun b hb' => Nat.lt_of_lt_of_le (h.kl b hb') hg.size, k0 := h.k0, kb := Nat.le_trans h.kb hg.size }

theorem GR.appL (h : GR w K0 base g nd nL nT nS D L T vd vl vt vs pv gcs FR) {v' : Value} {x : Nat} (hr : w'.ownsRow base 3 1 v' (nL + 1) (nl (upd L nL x) (nL + 1))) (hg : w.grownBy w' vl.ownBlock) (ha : At w vl v') :
    GR w' K0 base g nd (nL + 1) nT nS D (upd L nL x) T vd v' vt vs pv gcs FR ∧ Keep K0 w w' := by
  obtain ⟨xs, hx1, hx2⟩ := h.rs
  have hkeep : ∀ b, b < w.heap.size → vl.ownBlock ≠ some b → w'.heap[b]? = w.heap[b]? := fun b hb hne => hg.block b hb (fun e => hne e.symm)
  have hnew : ∀ b, b < w.heap.size → v'.ownBlock = some b → vl.ownBlock = some b := fun b hb e => by
    rcases ha with h1 | ⟨k, h1, h2⟩
    · rw [← h1]; exact e
    · rw [h1] at e; cases e; omega
  have hgne : vl.ownBlock ≠ some g := own_ne h.rl h.hg (by decide)
  have hks : ∀ b, b < w.heap.size → KS K0 g vd v' vt vs b → KS K0 g vd vl vt vs b := fun b hb hk => by
    rcases hk with h1 | h1 | h1 | h1 | h1 | h1
    · exact .inl h1
    · exact .inr (.inl h1)
    · exact .inr (.inr (.inl h1))
    · exact .inr (.inr (.inr (.inl (hnew b hb h1))))
    · exact .inr (.inr (.inr (.inr (.inl h1))))
    · exact .inr (.inr (.inr (.inr (.inr h1))))
  refine ⟨?_, ⟨hg.os, hg.tape, hg.output, hg.size, fun b hb => hkeep b (h.kl b hb) (h.nk b hb).2.2.1⟩⟩
  exact
    { hg := (hkeep g (lt_of_heap h.hg) hgne).trans h.hg
      rd := own_heap h.rd (fun b hb' => hkeep b (h.rd.lt b hb').2 (fun e => by obtain ⟨a1, a2, a3, a4, a5, a6⟩ := own_block h.rd b hb'; exact own_ne h.rl a4 (by decide) e))
      rl := hr
      rt := own_heap h.rt (fun b hb' => hkeep b (h.rt.lt b hb').2 (fun e => h.lt b e hb'))
      rs := ⟨xs, own_heap hx1 (fun b hb' => hkeep b (hx1.lt b hb').2 (fun e => by obtain ⟨a1, a2, a3, a4, a5, a6⟩ := own_block hx1 b hb'; exact own_ne h.rl a4 (by decide) e)), hx2⟩
      rf := fun u k hu => by
        rcases h.rf u k hu with h1 | ⟨b, cap, h1, h2, h3, h4, c, h5, h6⟩
        · exact .inl h1
        · have hlt := lt_of_heap h5
          exact .inr ⟨b, cap, h1, h2, h3, fun hk => h4 (hks b hlt hk), c, (hkeep b hlt (fun e => h4 (.inr (.inr (.inr (.inl e)))))).trans h5, h6⟩
      lt := fun b hb hb2 => h.lt b (hnew b (h.rt.lt b hb2).2 hb) hb2
      nk := fun b hb => by
        obtain ⟨h1, h2, h3, h4, h5⟩ := h.nk b hb
        exact ⟨h1, h2, fun e => h3 (hnew b (h.kl b hb) e), h4, h5⟩
      bg := h.bg, kl := fun b hb' => Nat.lt_of_lt_of_le (h.kl b hb') hg.size, k0 := h.k0, kb := Nat.le_trans h.kb hg.size }

theorem GR.appT (h : GR w K0 base g nd nL nT nS D L T vd vl vt vs pv gcs FR) {v' : Value} {x : Nat} (hr : w'.ownsRow base 3 1 v' (nT + 1) (nl (upd T nT x) (nT + 1))) (hg : w.grownBy w' vt.ownBlock) (ha : At w vt v') :
    GR w' K0 base g nd nL (nT + 1) nS D L (upd T nT x) vd vl v' vs pv gcs FR ∧ Keep K0 w w' := by
  obtain ⟨xs, hx1, hx2⟩ := h.rs
  have hkeep : ∀ b, b < w.heap.size → vt.ownBlock ≠ some b → w'.heap[b]? = w.heap[b]? := fun b hb hne => hg.block b hb (fun e => hne e.symm)
  have hnew : ∀ b, b < w.heap.size → v'.ownBlock = some b → vt.ownBlock = some b := fun b hb e => by
    rcases ha with h1 | ⟨k, h1, h2⟩
    · rw [← h1]; exact e
    · rw [h1] at e; cases e; omega
  have hgne : vt.ownBlock ≠ some g := own_ne h.rt h.hg (by decide)
  have hks : ∀ b, b < w.heap.size → KS K0 g vd vl v' vs b → KS K0 g vd vl vt vs b := fun b hb hk => by
    rcases hk with h1 | h1 | h1 | h1 | h1 | h1
    · exact .inl h1
    · exact .inr (.inl h1)
    · exact .inr (.inr (.inl h1))
    · exact .inr (.inr (.inr (.inl h1)))
    · exact .inr (.inr (.inr (.inr (.inl (hnew b hb h1)))))
    · exact .inr (.inr (.inr (.inr (.inr h1))))
  refine ⟨?_, ⟨hg.os, hg.tape, hg.output, hg.size, fun b hb => hkeep b (h.kl b hb) (h.nk b hb).2.2.2.1⟩⟩
  exact
    { hg := (hkeep g (lt_of_heap h.hg) hgne).trans h.hg
      rd := own_heap h.rd (fun b hb' => hkeep b (h.rd.lt b hb').2 (fun e => by obtain ⟨a1, a2, a3, a4, a5, a6⟩ := own_block h.rd b hb'; exact own_ne h.rt a4 (by decide) e))
      rl := own_heap h.rl (fun b hb' => hkeep b (h.rl.lt b hb').2 (fun e => h.lt b hb' e))
      rt := hr
      rs := ⟨xs, own_heap hx1 (fun b hb' => hkeep b (hx1.lt b hb').2 (fun e => by obtain ⟨a1, a2, a3, a4, a5, a6⟩ := own_block hx1 b hb'; exact own_ne h.rt a4 (by decide) e)), hx2⟩
      rf := fun u k hu => by
        rcases h.rf u k hu with h1 | ⟨b, cap, h1, h2, h3, h4, c, h5, h6⟩
        · exact .inl h1
        · have hlt := lt_of_heap h5
          exact .inr ⟨b, cap, h1, h2, h3, fun hk => h4 (hks b hlt hk), c, (hkeep b hlt (fun e => h4 (.inr (.inr (.inr (.inr (.inl e))))))).trans h5, h6⟩
      lt := fun b hb hb2 => h.lt b hb (hnew b (h.rl.lt b hb).2 hb2)
      nk := fun b hb => by
        obtain ⟨h1, h2, h3, h4, h5⟩ := h.nk b hb
        exact ⟨h1, h2, h3, fun e => h4 (hnew b (h.kl b hb) e), h5⟩
      bg := h.bg, kl := fun b hb' => Nat.lt_of_lt_of_le (h.kl b hb') hg.size, k0 := h.k0, kb := Nat.le_trans h.kb hg.size }

theorem GR.appS (h : GR w K0 base g nd nL nT nS D L T vd vl vt vs pv gcs FR) {v' : Value} {pv' : Nat → Value} (hr : SRow w' base v' (nS + 1) pv') (hg : w.grownBy w' vs.ownBlock) (ha : At w vs v') :
    GR w' K0 base g nd nL nT (nS + 1) D L T vd vl vt v' pv' gcs FR ∧ Keep K0 w w' := by
  obtain ⟨xs, hx1, hx2⟩ := h.rs
  have hkeep : ∀ b, b < w.heap.size → vs.ownBlock ≠ some b → w'.heap[b]? = w.heap[b]? := fun b hb hne => hg.block b hb (fun e => hne e.symm)
  have hnew : ∀ b, b < w.heap.size → v'.ownBlock = some b → vs.ownBlock = some b := fun b hb e => by
    rcases ha with h1 | ⟨k, h1, h2⟩
    · rw [← h1]; exact e
    · rw [h1] at e; cases e; omega
  have hgne : vs.ownBlock ≠ some g := own_ne hx1 h.hg (by decide)
  have hks : ∀ b, b < w.heap.size → KS K0 g vd vl vt v' b → KS K0 g vd vl vt vs b := fun b hb hk => by
    rcases hk with h1 | h1 | h1 | h1 | h1 | h1
    · exact .inl h1
    · exact .inr (.inl h1)
    · exact .inr (.inr (.inl h1))
    · exact .inr (.inr (.inr (.inl h1)))
    · exact .inr (.inr (.inr (.inr (.inl h1))))
    · exact .inr (.inr (.inr (.inr (.inr (hnew b hb h1)))))
  refine ⟨?_, ⟨hg.os, hg.tape, hg.output, hg.size, fun b hb => hkeep b (h.kl b hb) (h.nk b hb).2.2.2.2⟩⟩
  exact
    { hg := (hkeep g (lt_of_heap h.hg) hgne).trans h.hg
      rd := own_heap h.rd (fun b hb' => hkeep b (h.rd.lt b hb').2 (fun e => by obtain ⟨a1, a2, a3, a4, a5, a6⟩ := own_block h.rd b hb'; exact own_ne hx1 a4 (by decide) e))
      rl := own_heap h.rl (fun b hb' => hkeep b (h.rl.lt b hb').2 (fun e => by obtain ⟨a1, a2, a3, a4, a5, a6⟩ := own_block h.rl b hb'; exact own_ne hx1 a4 (by decide) e))
      rt := own_heap h.rt (fun b hb' => hkeep b (h.rt.lt b hb').2 (fun e => by obtain ⟨a1, a2, a3, a4, a5, a6⟩ := own_block h.rt b hb'; exact own_ne hx1 a4 (by decide) e))
      rs := hr
      rf := fun u k hu => by
        rcases h.rf u k hu with h1 | ⟨b, cap, h1, h2, h3, h4, c, h5, h6⟩
        · exact .inl h1
        · have hlt := lt_of_heap h5
          exact .inr ⟨b, cap, h1, h2, h3, fun hk => h4 (hks b hlt hk), c, (hkeep b hlt (fun e => h4 (.inr (.inr (.inr (.inr (.inr e))))))).trans h5, h6⟩
      lt := h.lt
      nk := fun b hb => by
        obtain ⟨h1, h2, h3, h4, h5⟩ := h.nk b hb
        exact ⟨h1, h2, h3, h4, fun e => h5 (hnew b (h.kl b hb) e)⟩
      bg := h.bg, kl := fun b hb' => Nat.lt_of_lt_of_le (h.kl b hb') hg.size, k0 := h.k0, kb := Nat.le_trans h.kb hg.size }
end
end Go.Proofs.YbulkdzeiDoor.C
