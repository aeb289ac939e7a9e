/-
  BEHIND makeRoomLocked, where one address is gone: what the law then looks at.
-/
import Derived.Test.YbulkdzgmCopy
namespace Go.Proofs.Ybulkdzgm
open Go Go.RowKit

/-- Item jj is gone from the queue with ans = a. -/
structure Went (w7 : World) (D mb base q : Nat) (X : Nat → Item) (PB : Nat → Nat) (a : Bool) (jj m' mo : Nat) (f F fo : Nat → Nat) (v' vo : Value) (Ec : Array Value) : Prop where
  jl : jj < q
  le : m' + 1 ≤ q
  leo : mo ≤ q
  ans : (X jj).ans = a
  nam : (X jj).nam = false
  last : Last X q a jj
  fm : F m' = jj
  perm : Perm (m' + 1) f F
  heap : Heap X F m'
  rng : ∀ i, i < m' + 1 → f i < q
  inj : ∀ i j, i < m' + 1 → j < m' + 1 → f i = f j → i = j
  own : w7.ownsRow base 41 1 v' m' (ptrs PB F m')
  owno : w7.ownsRow base 41 1 vo mo (ptrs PB fo mo)
  rngo : ∀ i, i < mo → fo i < q
  kn : Known w7 mb q (fun t => !decide (t = name jj) && names q t) (q - 1)
  c5 : Ec[5]? = some (.int .i64 ((lst X q : Int) - 1))
  cq : Ec[if a then 6 else 7]? = some v'
  co : Ec[if a then 7 else 6]? = some vo
  dd : w7.heap[D]? = some (.cells Ec 38 (0, 0))

theorem kept_nam {x : Item} (h : keptB x = false) : x.nam = false := by
  unfold keptB at h
  cases hnm : x.nam
  · rfl
  · rw [hnm] at h; simp at h

theorem went_of {w7 wc : World} {D mb base q o m mo tt : Nat} {X : Nat → Item} {PB f fo : Nat → Nat} {v vo : Value} {Dc : Array Value} {a : Bool} (ho : o = if a then 6 else 7) (hds : Dc.size = 9) (hq : Half wc base q X PB a m f v) (hqo : Half wc base q X PB (!a) mo fo vo)
    (hne : ∀ b, vo.ownBlock = some b → v.ownBlock ≠ some b) (hD : wc.heap[D]? = some (.cells Dc 38 (0, 0))) (hkn : Known wc mb q (names q) q) (hvo : Dc[if a then 7 else 6]? = some vo) (hst : ∀ i, (X i).st = .string (name i))
    (hg : Gone D o m base mb q q tt X PB f (names q) (lst X q) v Dc wc w7) : ∃ (m' : Nat) (F : Nat → Nat) (v' : Value) (Ec : Array Value), m = m' + 1 ∧ Went w7 D mb base q X PB a (f tt) m' mo f F fo v' vo Ec := by
  obtain ⟨m', F, v', s, rfl, hl, hs, hF, hP, hH, hd, hO, hvb, hK, hC⟩ := hg
  have hsn : s = name (f tt) := by
    have h1 := hst (f tt)
    rw [hs] at h1
    injection h1
  subst hsn
  refine ⟨m', F, v', (Dc.setIfInBounds o v').setIfInBounds 5 (.int .i64 ((lst X q : Int) - 1)), rfl, ?_⟩
  have ht := hl.1
  exact
    { jl := (hq.rng tt ht).1
      le := hq.le
      leo := hqo.le
      ans := (hq.rng tt ht).2
      nam := kept_nam hl.2.1
      last := last_of hq.rng hq.onto hl
      fm := hF
      perm := hP
      heap := hH hq.heap
      rng := fun i hi => (hq.rng i hi).1
      inj := hq.inj
      own := hO
      owno := own_heap hqo.own (fun b hb => hC.block b (hqo.own.lt b hb).2 (fun hh => by
        rcases hh with e | e | e
        · exact own_ne hqo.own hD (by decide) (e ▸ hb)
        · rcases hqo.own.2 with ⟨rfl, _⟩ | ⟨g, cap, cur, rfl, _, h3, _⟩
          · simp [Value.ownBlock] at hb
          · simp [Value.ownBlock] at hb
            subst hb
            exact hkn.ne h3 e.symm
        · exact hne b hb e))
      rngo := fun i hi => (hqo.rng i hi).1
      kn := hK
      c5 := by simp [hds]
      cq := by
        rw [Array.getElem?_setIfInBounds_ne (by split <;> omega), ho, Array.getElem?_setIfInBounds]
        rw [if_pos rfl, if_pos (by split <;> omega)]
      co := by
        rw [Array.getElem?_setIfInBounds_ne (by split <;> omega), ho, Array.getElem?_setIfInBounds_ne (by cases a <;> simp)]
        exact hvo
      dd := hd }
end Go.Proofs.Ybulkdzgm
