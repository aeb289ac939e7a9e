/-
  learn, its three ways in one sentence.
-/
import Derived.Test.YbulkdzhaPeer
namespace Go.Proofs.Ybulkdzha
open Go Go.RowKit

theorem Rows.one {sz : Nat} {arr : Array Value} {n : Nat} {R : Nat → Array Value} (h : Rows sz arr n R) (hz : 0 < sz) (hs : arr.size = n * sz) (h1 : ∀ i, i < n → ∀ v ∈ (R i).toList, v.oneCell' = true) : ∀ v ∈ arr.toList, v.oneCell' = true := by
  intro v hv
  obtain ⟨t, ht, rfl⟩ := List.getElem_of_mem hv
  have ht' : t < n * sz := by simpa [hs] using ht
  have e1 : t / sz < n := (Nat.div_lt_iff_lt_mul hz).2 ht'
  have e2 : t / sz * sz + t % sz = t := by rw [Nat.mul_comm]; exact Nat.div_add_mod t sz
  have e3 := h.row (t / sz) e1 (t % sz) (Nat.mod_lt _ hz)
  rw [e2, Array.getElem?_eq_getElem (by simpa using ht)] at e3
  refine h1 _ e1 _ ?_
  have e4 := Array.mem_of_getElem? e3.symm
  simpa using e4

/-- The entry of number i. -/
def entOf (gs ss us : List Int) (i : Nat) : Array Value := ent (gs.getD i 0) (seenOf ss i) (addrOf us i) i
theorem ent_is (g sn ad : Int) (i : Nat) : IsEnt (ent g sn ad i) := ⟨ad, sn, g % 6, i, g, g % 2 == 1, rfl⟩
theorem IsEnt.one' {c : Array Value} (h : IsEnt c) : ∀ v ∈ c.toList, v.oneCell' = true := by
  obtain ⟨_, _, _, _, _, _, rfl⟩ := h
  intro v hv
  simp only [List.mem_cons, List.not_mem_nil, or_false] at hv
  rcases hv with rfl | rfl | rfl | rfl | rfl | rfl <;> rfl
/-- The entries with one seen later. -/
def updOf (gs ss us : List Int) (k : Nat) (seen : Int) (i : Nat) : Array Value := if i = k then ent (gs.getD i 0) (later (seenOf ss i) seen) (addrOf us i) i else entOf gs ss us i
def idsOf (gs : List Int) (i : Nat) : Array Value := idv (key gs i)

/-- The three ways. -/
def Way (gs ss us : List Int) (pk self n : Nat) (pad seen : Int) (al : Bool) (got : Int) (n7 : Nat) (al7 : Bool) (R7 E7 : Nat → Array Value) : Prop :=
  (pk = self ∧ got = -1 ∧ n7 = n ∧ al7 = al ∧ R7 = idsOf gs ∧ E7 = entOf gs ss us) ∨
  (pk ≠ self ∧ ∃ k : Nat, k < n ∧ key gs k = pk ∧ got = k ∧ n7 = n ∧ al7 = false ∧ R7 = idsOf gs ∧ E7 = updOf gs ss us k seen) ∨
  (pk ≠ self ∧ ∃ k : Nat, k ≤ n ∧ (∀ i, i < k → key gs i < pk) ∧ (∀ i, k ≤ i → i < n → pk < key gs i) ∧ got = k ∧ n7 = n + 1 ∧ al7 = false ∧ R7 = insR k (idsOf gs) (idv pk) ∧ E7 = insR k (entOf gs ss us) (fresh pad seen))

/-- The node behind it. -/
structure After (w' : World) (P sf : Nat) (n7 : Nat) (al7 : Bool) (R7 E7 : Nat → Array Value) (N7 A7 C7 : Array Value) (g7 c7 h7 d7 : Nat) : Prop where
  node : w'.heap[P]? = some (.cells N7 71 (0, 0))
  self : N7.extract 0 21 = peer sf 7
  ids : N7[34]? = some (.slice (some ⟨g7, 0, none⟩) n7 c7)
  cache : N7[35]? = some (.slice (some ⟨h7, 0, none⟩) n7 d7)
  alone : N7[71]? = some (.bool al7)
  hg : w'.heap[g7]? = some (.cells A7 30 (0, 0))
  hh : w'.heap[h7]? = some (.cells C7 38 (0, 0))
  ra : Rows 20 A7 n7 R7
  rc : Rows 6 C7 n7 E7

def Done (gs ss us : List Int) (pk self n P h : Nat) (pad seen : Int) (al : Bool) (w : World) (e : Ending) (w' : World) : Prop :=
  ∃ (got : Int) (n7 : Nat) (al7 : Bool) (R7 E7 : Nat → Array Value) (N7 A7 C7 : Array Value) (g7 c7 h7 d7 : Nat), e = .returned (.int .i64 got) ∧ Way gs ss us pk self n pad seen al got n7 al7 R7 E7 ∧ After w' P self n7 al7 R7 E7 N7 A7 C7 g7 c7 h7 d7 ∧
    w.heap.size ≤ w'.heap.size ∧ (∀ b, b < w.heap.size → b ≠ P → b ≠ h → w'.heap[b]? = w.heap[b]?) ∧ ∀ B, B ≤ P → B ≤ h → B ≤ w.heap.size → Below B w w'

theorem least {gs : List Int} {pk n : Nat} : (∃ k, k < n ∧ key gs k = pk) ∨ ∃ k, k ≤ n ∧ (∀ i, i < k → key gs i < pk) ∧ ∀ i, k ≤ i → i < n → pk < key gs i := by
  induction n with
  | zero => exact .inr ⟨0, by omega, fun i hi => absurd hi (Nat.not_lt_zero _), fun i _ h => absurd h (Nat.not_lt_zero _)⟩
  | succ n ih =>
    rcases ih with ⟨k, h1, h2⟩ | ⟨k, h1, h2, h3⟩
    · exact .inl ⟨k, by omega, h2⟩
    · rcases Nat.lt_trichotomy (key gs n) pk with h | h | h
      · by_cases hk : k = n
        · subst hk
          refine .inr ⟨k + 1, by omega, fun i hi => ?_, fun i hi hi2 => by omega⟩
          by_cases hik : i = k
          · subst hik; exact h
          · exact h2 i (by omega)
        · have := h3 k (Nat.le_refl _) (by omega)
          have := key_mono gs (show k < n by omega)
          omega
      · exact .inl ⟨n, by omega, h⟩
      · refine .inr ⟨k, by omega, h2, fun i hi hi2 => ?_⟩
        by_cases hin : i = n
        · subst hin; exact h
        · exact h3 i hi (by omega)

theorem ext_set {N : Array Value} {i : Nat} (h : 21 ≤ i) (v : Value) : (N.setIfInBounds i v).extract 0 21 = N.extract 0 21 := by
  apply Array.ext_getElem?
  intro j
  simp only [Array.getElem?_extract, Array.size_setIfInBounds]
  split
  · rw [Array.getElem?_setIfInBounds_ne (by omega)]
  · rfl

theorem learn_all (P pk self g h n : Nat) (pad seen : Int) (N A C : Array Value) (gs ss us : List Int) (al : Bool) (w : World) (hpk : pk < 4294967296) (hself : self < 4294967296) (hn : n ≤ 65536) (hkb : ∀ i, i < n → key gs i < 4294967296)
    (hN : IsNode N self (.slice (some ⟨g, 0, none⟩) n n) (.slice (some ⟨h, 0, none⟩) n n) al) (hN1 : N.extract 0 21 = peer self 7) (hp : w.heap[P]? = some (.cells N 71 (0, 0)))
    (hA : A.size = n * 20) (hAr : Rows 20 A n (idsOf gs)) (hg : w.heap[g]? = some (.cells A 30 (0, 0))) (hC : C.size = n * 6) (hCr : Rows 6 C n (entOf gs ss us)) (hh : w.heap[h]? = some (.cells C 38 (0, 0))) (hgp : g ≠ P) (hhp : h ≠ P) (hgh : g ≠ h) :
    Calls Yba.prog 6 #[.pointer (some ⟨P, 0, none⟩), .agg (peer pk pad), .int .i64 seen] w fun e w' => Done gs ss us pk self n P h pad seen al w e w' := by
  have hK : Keys A n (key gs) := ⟨hAr.size, fun k hk => hAr.extract hk rfl, hkb, fun i j hij hj => key_mono gs hij⟩
  have h71 : ∀ {i : Nat} {v : Value}, N[i]? = some v → i < N.size := fun {i v} h => (Array.getElem?_eq_some_iff.1 h).1
  have s71 := h71 hN.alone
  by_cases hps : pk = self
  · subst hps
    refine (learn_self P pk pad seen _ N _ _ al w hpk (peer_is pk pad) hN hp).mono ?_
    rintro e w' ⟨rfl, hb⟩
    exact ⟨-1, n, al, idsOf gs, entOf gs ss us, N, A, C, g, n, h, n, rfl, .inl ⟨rfl, rfl, rfl, rfl, rfl, rfl⟩,
      ⟨heap_below hb hp, hN1, hN.ids, hN.cache, hN.alone, heap_below hb hg, heap_below hb hh, hAr, hCr⟩, hb.size, fun b hb' _ _ => hb.block b hb', fun B _ _ hB => hb.mono hB⟩
  · rcases least (gs := gs) (pk := pk) (n := n) with ⟨k, hk, hku⟩ | ⟨k, hk, hlo, hhi⟩
    · have hsn : C[k * 6 + 1]? = some (.int .i64 (seenOf ss k)) := hCr.row k hk 1 (by omega)
      refine (learn_found P pk self g h n k pad seen (seenOf ss k) _ N A C (key gs) al w hpk hself hps hn (peer_is pk pad) hN hp hK hg hh hgp hhp hk hku hsn).mono ?_
      rintro e w' ⟨rfl, hp', hh', hsz, hkeep, hbel⟩
      refine ⟨k, n, false, idsOf gs, updOf gs ss us k seen, _, A, _, g, n, h, n, rfl, .inr (.inl ⟨hps, k, hk, hku, rfl, rfl, rfl, rfl, rfl⟩), ⟨hp', ?_, ?_, ?_, ?_, (hkeep g (lt_of_heap hg) hgp hgh).trans hg, hh', hAr, ⟨?_, fun i hi j hj => ?_⟩⟩, hsz, hkeep, hbel⟩
      · rw [ext_set (by omega)]; exact hN1
      · rw [Array.getElem?_setIfInBounds_ne (by omega)]; exact hN.ids
      · rw [Array.getElem?_setIfInBounds_ne (by omega)]; exact hN.cache
      · simp [s71]
      · simp; omega
      · rw [Array.getElem?_setIfInBounds]
        unfold updOf
        by_cases hik : i = k
        · subst hik
          rw [if_pos rfl]
          by_cases hj1 : j = 1
          · subst hj1
            rw [if_pos rfl, if_pos (by omega)]; rfl
          · rw [if_neg (by omega), hCr.row i hi j hj]
            unfold entOf ent
            match j, hj, hj1 with
            | 0, _, _ => rfl
            | 2, _, _ => rfl
            | 3, _, _ => rfl
            | 4, _, _ => rfl
            | 5, _, _ => rfl
        · rw [if_neg (by omega), if_neg hik]
          exact hCr.row i hi j hj
    · refine (learn_new P pk self g h n k pad seen _ N A C (key gs) al w hpk hself hps hn (peer_is pk pad) hN hp hK hA (hAr.one (by omega) hA (fun i hi => idv_one _ (hkb i hi))) hg hC (hCr.one (by omega) hC (fun i hi => (ent_is _ _ _ _).one')) hh hgp hhp hk hlo hhi).mono ?_
      rintro e w' ⟨rfl, g2, c2, h2, d2, A2, C2, hp', hg', hh', hg2, hh2, hI, hJ, hsz, hkeep, hbel⟩
      have s34 := h71 hN.ids
      have s35 := h71 hN.cache
      refine ⟨k, n + 1, false, insR k (idsOf gs) (idv pk), insR k (entOf gs ss us) (fresh pad seen), _, A2, C2, g2, c2, h2, d2, rfl, .inr (.inr ⟨hps, k, hk, hlo, hhi, rfl, rfl, rfl, rfl, rfl⟩), ⟨hp', ?_, ?_, ?_, ?_, hg', hh', hAr.ins hk hI, hCr.ins hk hJ⟩, hsz, fun b h1 h2 _ => hkeep b h1 h2, fun B h1 _ h2 => hbel B h1 h2⟩
      · rw [ext_set (by omega), ext_set (by omega), ext_set (by omega)]; exact hN1
      · rw [Array.getElem?_setIfInBounds_ne (by omega)]; simp [s34]
      · simp [s35]
      · rw [Array.getElem?_setIfInBounds_ne (by omega), Array.getElem?_setIfInBounds_ne (by omega)]; simp [s71]
end Go.Proofs.Ybulkdzha
