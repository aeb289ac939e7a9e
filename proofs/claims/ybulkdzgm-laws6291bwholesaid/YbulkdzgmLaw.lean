/-
  THE LAW S6291B, at no more than 512 items.
-/
import Derived.Test.YbulkdzgmWent
namespace Go.Proofs.Ybulkdzgm
open Go Go.RowKit
attribute [local go_sem ↓] loadAt49 storeAt49 equalIn49
attribute [local go_sem] run_load49 guard49 has9_drew has9_drewN row9_drew row9_drewN

theorem info49m : (Yba.prog.info? 49).map (fun i => (i.zero, i.size, i.bytes)) = some (some (.agg #[.string ⟨#[]⟩, .int .u64 0, .int .i64 0, .pointer none, .int .i64 0, .bool false, .bool false, .int .u64 0, .bool false]), 9, 72) := by kernel_rfl
theorem info41m : (Yba.prog.info? 41).map (fun i => (i.zero, i.size, i.bytes)) = some (some (.pointer none), 1, 8) := by kernel_rfl

/-- The dialer behind k items, whatever lies where. -/
def Stage (w wr : World) (n k : Nat) (X : Nat → Item) : Prop := ∃ (PB f6 f7 : Nat → Nat) (m6 m7 : Nat) (v6 v7 : Value) (Dc Pc : Array Value), St w wr (w.heap.size + 1) w.heap.size (w.heap.size + 2) n k X PB f6 f7 m6 m7 v6 v7 Dc Pc

theorem stage_start {w w1 : World} {n : Nat} {X : Nat → Item} (hA : w1.heap[w.heap.size + 2]? = some (.cells (madeCells (Value.pointer none).cells (n * 1)) 41 (0, 0)))
    (hb : Below (w.heap.size + 2) ((w.alloc (.map #[] 0)).alloc (.cells #[.pointer none, .chan none, .int .i32 0, .int .u32 0, .map (some w.heap.size), .int .i64 0, .slice none 0 0, .slice none 0 0, .int .u64 0] 38)) w1) : Stage w w1 n 0 X := by
  refine ⟨id, id, id, 0, 0, .slice none 0 0, .slice none 0 0, #[.pointer none, .chan none, .int .i32 0, .int .u32 0, .map (some w.heap.size), .int .i64 0, .slice none 0 0, .slice none 0 0, .int .u64 0], madeCells (Value.pointer none).cells (n * 1), ?_⟩
  exact
    { bel := (((Below.refl _ _).alloc (Nat.le_refl _) _).alloc (by simp) _).trans (hb.mono (by omega))
      dd := (hb.block _ (by omega)).trans (heap_alloc2 _ _ _)
      ds := rfl
      c4 := rfl
      c5 := rfl
      c6 := rfl
      c7 := rfl
      c8 := rfl
      kn := (Known.made w).kept (((hb.block _ (by omega)).trans (heap_alloc1 _ _ _)).trans (heap_alloc_new _ _).symm)
      pp := hA
      ps := by rw [size_madeCells]; omega
      pr := fun _ h => absurd h (Nat.not_lt_zero _)
      pn := fun i _ h => ⟨none, by simp [madeCells, Value.cells, h, Nat.mod_one]⟩
      it := fun _ h => absurd h (Nat.not_lt_zero _)
      inj := fun _ _ h => absurd h (Nat.not_lt_zero _)
      q6 := Half.start _ _ _ _ _ _
      q7 := Half.start _ _ _ _ _ _
      ne := fun b h => by simp [Value.ownBlock] at h
      n6 := by simp [Value.ownBlock]
      n7 := by simp [Value.ownBlock]
      lD := by omega
      lm := Nat.le_refl _
      lp := by omega
      lP := fun _ h => absurd h (Nat.not_lt_zero _) }

/-- What the two picks find. -/
def PickAll (X : Nat → Item) (n : Nat) (z : Int) : Prop :=
  (z = -1 ∧ (∀ j, j < n → ¬ Last X n false j) ∧ ∀ j, j < n → ¬ Last X n true j) ∨ (∃ j : Nat, z = j ∧ j < n ∧ Last X n false j) ∨ (∃ j : Nat, z = j ∧ j < n ∧ (∀ i, i < n → ¬ Last X n false i) ∧ Last X n true j)

/-- The two queues, for makeRoomLocked. -/
theorem St.queue7 {w wr wx : World} {D mb pb n k : Nat} {X : Nat → Item} {PB f6 f7 : Nat → Nat} {m6 m7 : Nat} {v6 v7 : Value} {Dc Pc : Array Value} (h : St w wr D mb pb n k X PB f6 f7 m6 m7 v6 v7 Dc Pc) (hk : k ≤ 800) (hb : Below wr.heap.size wr wx) : Queue wx D 7 m7 w.heap.size X PB f7 v7 Dc :=
  ⟨by have := h.q7.le; omega, h.c7, own_below h.q7.own hb, fun i hi => heap_below hb (h.it _ (h.q7.rng i hi).1), h.q7.inj⟩
theorem St.queue6 {w wr wx : World} {D mb pb n k : Nat} {X : Nat → Item} {PB f6 f7 : Nat → Nat} {m6 m7 : Nat} {v6 v7 : Value} {Dc Pc : Array Value} (h : St w wr D mb pb n k X PB f6 f7 m6 m7 v6 v7 Dc Pc) (hk : k ≤ 800) (hb : Below wr.heap.size wr wx) : Queue wx D 6 m6 w.heap.size X PB f6 v6 Dc :=
  ⟨by have := h.q6.le; omega, h.c6, own_below h.q6.own hb, fun i hi => heap_below hb (h.it _ (h.q6.rng i hi).1), h.q6.inj⟩
theorem St.names {w wr : World} {D mb pb n k : Nat} {X : Nat → Item} {PB f6 f7 : Nat → Nat} {m6 m7 : Nat} {v6 v7 : Value} {Dc Pc : Array Value} (h : St w wr D mb pb n k X PB f6 f7 m6 m7 v6 v7 Dc Pc) (hst : ∀ i, (X i).st = .string (name i)) :
    ∀ i, (i < m7 → ∃ s : ByteArray, (X (f7 i)).st = .string s ∧ s.size ≤ maxLen ∧ Go.Proofs.Ybulkdzgm.names k s = true) ∧ (i < m6 → ∃ s : ByteArray, (X (f6 i)).st = .string s ∧ s.size ≤ maxLen ∧ Go.Proofs.Ybulkdzgm.names k s = true) := fun i =>
  ⟨fun hi => ⟨_, hst _, name_size _, (names_iff k).2 ⟨f7 i, (h.q7.rng i hi).1, rfl⟩⟩, fun hi => ⟨_, hst _, name_size _, (names_iff k).2 ⟨f6 i, (h.q6.rng i hi).1, rfl⟩⟩⟩
theorem St.listed {w wr : World} {D mb pb n k : Nat} {X : Nat → Item} {PB f6 f7 : Nat → Nat} {m6 m7 : Nat} {v6 v7 : Value} {Dc Pc : Array Value} (h : St w wr D mb pb n k X PB f6 f7 m6 m7 v6 v7 Dc Pc) (hk : k ≤ 800) (hn : ¬ (NoneIn X f7 m7 ∧ NoneIn X f6 m6)) : 1 ≤ (lst X k : Int) ∧ (lst X k : Int) ≤ 1000 := by
  have hle := lst_le X k
  refine ⟨?_, by omega⟩
  have key : ∀ x, keptB (X x) = false → (X x).nam = false := fun x hx => by
    unfold keptB at hx
    cases hnm : (X x).nam
    · rfl
    · rw [hnm] at hx; simp at hx
  have go : ∀ {m : Nat} {f : Nat → Nat}, (∀ i, i < m → f i < k) → ¬ NoneIn X f m → 1 ≤ lst X k := fun {m f} hr hno => by
    unfold NoneIn at hno
    obtain ⟨i, hi⟩ := Classical.not_forall.1 hno
    obtain ⟨h1, h2⟩ := Classical.not_imp.1 hi
    exact lst_pos (hr i h1) (key _ (by cases hh : keptB (X (f i)); rfl; exact absurd hh h2))
  by_cases h7 : NoneIn X f7 m7
  · have := go (fun i hi => (h.q6.rng i hi).1) (fun h6 => hn ⟨h7, h6⟩); omega
  · have := go (fun i hi => (h.q7.rng i hi).1) h7; omega

section
variable {D base mb n sz m6 m7 : Nat} {X : Nat → Item} {PB f6 f7 : Nat → Nat} {T : ByteArray → Bool} {l : Int} {v6 v7 : Value} {Dc : Array Value} {w w' : World} {e : Ending}
theorem Made.ret (h : Made D base mb n sz m6 m7 X PB f6 f7 T l v6 v7 Dc w e w') : ∃ r : Bool, e = .returned (.bool r) := by
  rcases h with ⟨h, _⟩ | ⟨h, _⟩ | ⟨h, _⟩
  · exact ⟨_, h⟩
  · exact ⟨_, h⟩
  · exact ⟨_, h⟩
theorem Made.size (h : Made D base mb n sz m6 m7 X PB f6 f7 T l v6 v7 Dc w e w') : w.heap.size ≤ w'.heap.size := by
  rcases h with ⟨_, _, _, h⟩ | ⟨_, t, _, _, _, _, _, _, _, _, _, _, _, _, _, _, h⟩ | ⟨_, _, t, _, _, _, _, _, _, _, _, _, _, _, _, _, _, h⟩
  · exact h.size
  · exact h.size
  · exact h.size
theorem Made.keep (h : Made D base mb n sz m6 m7 X PB f6 f7 T l v6 v7 Dc w e w') {b : Nat} (h0 : b < w.heap.size) (h1 : b ≠ D) (h2 : b ≠ mb) (h3 : v6.ownBlock ≠ some b) (h4 : v7.ownBlock ≠ some b) : w'.heap[b]? = w.heap[b]? := by
  rcases h with ⟨_, _, _, h⟩ | ⟨_, t, _, _, _, _, _, _, _, _, _, _, _, _, _, _, h⟩ | ⟨_, _, t, _, _, _, _, _, _, _, _, _, _, _, _, _, _, h⟩
  · exact h.block b h0
  · exact h.block b h0 (fun hh => by rcases hh with e | e | e; exact h1 e; exact h2 e; exact h4 e)
  · exact h.block b h0 (fun hh => by rcases hh with e | e | e; exact h1 e; exact h2 e; exact h3 e)
theorem Made.below (h : Made D base mb n sz m6 m7 X PB f6 f7 T l v6 v7 Dc w e w') {B : Nat} (h0 : B ≤ w.heap.size) (h1 : B ≤ D) (h2 : B ≤ mb) (h3 : ∀ b, v6.ownBlock = some b → B ≤ b) (h4 : ∀ b, v7.ownBlock = some b → B ≤ b) : Below B w w' := by
  rcases h with ⟨_, _, _, h⟩ | ⟨_, t, _, _, _, _, _, _, _, _, _, _, _, _, _, _, h⟩ | ⟨_, _, t, _, _, _, _, _, _, _, _, _, _, _, _, _, _, h⟩
  · exact h.mono h0
  · exact h.below B h0 (fun b hh => by rcases hh with e | e | e; rw [e]; exact h1; rw [e]; exact h2; exact h4 b e)
  · exact h.below B h0 (fun b hh => by rcases hh with e | e | e; rw [e]; exact h1; rw [e]; exact h2; exact h3 b e)
theorem Made.dialer (h : Made D base mb n sz m6 m7 X PB f6 f7 T l v6 v7 Dc w e w') (hD : w.heap[D]? = some (.cells Dc 38 (0, 0))) : ∃ Ec, w'.heap[D]? = some (.cells Ec 38 (0, 0)) ∧ Ec[8]? = Dc[8]? ∧ Ec[4]? = Dc[4]? := by
  rcases h with ⟨_, _, _, h⟩ | ⟨_, t, m', F, v', s, _, _, _, _, _, _, h, _⟩ | ⟨_, _, t, m', F, v', s, _, _, _, _, _, _, h, _⟩
  · exact ⟨Dc, heap_below h hD, rfl, rfl⟩
  · exact ⟨_, h, by rw [Array.getElem?_setIfInBounds_ne (by omega), Array.getElem?_setIfInBounds_ne (by omega)], by rw [Array.getElem?_setIfInBounds_ne (by omega), Array.getElem?_setIfInBounds_ne (by omega)]⟩
  · exact ⟨_, h, by rw [Array.getElem?_setIfInBounds_ne (by omega), Array.getElem?_setIfInBounds_ne (by omega)], by rw [Array.getElem?_setIfInBounds_ne (by omega), Array.getElem?_setIfInBounds_ne (by omega)]⟩
end

/-- queueLocked at the middle state. -/
theorem mid_queue {w wl : World} {D mb pb n k : Nat} {X : Nat → Item} {PB f6 f7 : Nat → Nat} {m6 m7 : Nat} {v6 v7 : Value} {Dc Pc c0 : Array Value} (h : Mid w wl D mb pb n k X PB f6 f7 m6 m7 v6 v7 Dc Pc c0) (hk : k ≤ 800)
    (h5 : c0[5]? = some (.bool (X k).ans)) (h7 : ∃ y, c0[7]? = some (.int .u64 y)) (hc : c0.setIfInBounds 7 (.int .u64 k) = (X k).cells k) :
    Calls Yba.prog 6 #[.pointer (some ⟨D, 0, none⟩), .pointer (some ⟨PB k, 0, none⟩)] wl fun e w' => e = .returned (.tuple #[]) ∧ Queued D (if (X k).ans then 6 else 7) (if (X k).ans then m6 else m7) w.heap.size k X PB (if (X k).ans then f6 else f7) k (if (X k).ans then v6 else v7) Dc wl w' := by
  refine queue_any D (if (X k).ans then m6 else m7) w.heap.size k k (X k).ans X PB (if (X k).ans then f6 else f7) (if (X k).ans then v6 else v7) Dc c0 wl ?_ (by omega) h.dd h.c8 ?_ ?_ h.bel.size h.new h5 h7 hc ?_
  · have h1 := h.q6.le
    have h2 := h.q7.le
    split <;> omega
  · split
    · exact h.c6
    · exact h.c7
  · split
    · exact h.q6.own
    · exact h.q7.own
  · intro i hi
    have hx : (if (X k).ans then f6 else f7) i < k := by
      split
      · rename_i ha; rw [if_pos ha] at hi; exact (h.q6.rng i hi).1
      · rename_i ha; rw [if_neg ha] at hi; exact (h.q7.rng i hi).1
    exact ⟨h.it _ hx, fun e => by have := h.inj _ k (by omega) (by omega) e; omega⟩

set_option maxRecDepth 100000 in
set_option maxHeartbeats 4000000 in
theorem law_any (n cap : Nat) (a0 : Option Addr) (X : Nat → Item) (w : World) (hn : n ≤ 512) (hX : ItsAt w a0 n X) (hst : ∀ i, (X i).st = .string (name i)) (hdue : ∀ i, i < n → -9223372036854775808 ≤ (X i).due ∧ (X i).due ≤ 9223372036854775807) :
    Calls Yba.prog 3 #[.slice a0 n cap] w fun e w' => e = .returned (.bool true) ∧ Below w.heap.size w w' := by
  obtain ⟨i1, hi1, hy0, hy1, hy2⟩ := info_parts info41m
  obtain ⟨i9, hi9, hz0, hz1, hz2⟩ := info_parts info49m
  have HX := Hid.mk hX
  have HST := Hid.mk hst
  have HDU := Hid.mk hdue
  clear hX hst hdue
  have hmm := @run_makeMap Yba.prog
  have hnle : decide ((512 : Int) < (n : Int)) = false := by simp; omega
  have hnle' : ¬ ((512 : Int) < (n : Int)) := by omega
  go_enter Yba.func3, Yba.ntmps3
  go_wp2_with (at_make; refine wpList_make_block _ rfl _ _ 34 rfl 41 i1 _ 1 Yba.underlying34 hi1 hy0 hy1 n n rfl rfl (by omega) (by rw [hy2]; omega) (by unfold maxLen; omega) ?_; intro w1 hA1 hb1 hs1)
  have hst0 : Hid (Stage w w1 n 0 X) := stage_start (by simpa using hA1) (by simpa using hb1)
  rw [show w.heap.size + 1 + 1 = w.heap.size + 2 from rfl]
  clear hA1 hb1 hs1 hmm hnle hnle'
  go_loopw [6, 7, 8, 41] (fun _ _ _ c wr => ∃ k : Nat, k ≤ n ∧ c = .int .i64 (k : Int) ∧ Stage w wr n k X) (fun _ _ _ c _ => n - (intOf c).toNat)
  case atStart => exact ⟨0, by omega, rfl, hst0.out⟩
  case round =>
    clear hst0
    obtain ⟨k, hk, rfl, hS⟩ := hrel
    have HS := Hid.mk hS
    clear hS
    by_cases hlt : k < n
    · --[[1
      obtain ⟨PB, f6, f7, m6, m7, v6, v7, Dc, Pc, hs⟩ := HS.out
      obtain ⟨b, o, rfl, c1, c2, c3, c4⟩ := (HX.out.below hs.bel).cells k hlt
      obtain ⟨d, hd⟩ : ∃ d, (X k).due = d := ⟨_, rfl⟩
      obtain ⟨na, hna⟩ : ∃ d, (X k).nam = d := ⟨_, rfl⟩
      obtain ⟨an, han⟩ : ∃ d, (X k).ans = d := ⟨_, rfl⟩
      obtain ⟨ca, hca⟩ : ∃ d, (X k).car = d := ⟨_, rfl⟩
      rw [hd] at c1
      rw [hna] at c2
      rw [han] at c3
      rw [hca] at c4
      have hdd := HDU.out k hlt
      rw [hd] at hdd
      have k0 : (0 : Int) ≤ (k : Int) := by omega
      have k1 : (k : Int) < (n : Int) := by omega
      have HSS := Hid.mk hs
      clear hs HS
      go_upto_region 9 with fail
      obtain ⟨wa, hwa⟩ : ∃ x, x = wr.alloc (.cells #[.int .i64 d, .bool na, .bool an, .bool ca] 40) := ⟨_, rfl⟩
      rw [← hwa]
      have ha1 : wa.heap[wr.heap.size]? = some (.cells #[.int .i64 d, .bool na, .bool an, .bool ca] 40 (0, 0)) := by rw [hwa]; exact heap_alloc_new _ _
      have hba : Below wr.heap.size wr wa := by rw [hwa]; exact (Below.refl _ _).alloc (Nat.le_refl _) _
      have HA1 := Hid.mk ha1
      clear hwa ha1 c1 c2 c3 c4
      refine wp_region_pick3 [0, 2, 3, 6, 7, 9, 11] [4, 8, 10, 12] [1, 5, 13, 14, 15] [] [0, 1, 2, 3, 4, 5, 6, 7, 8, 9, 10, 11, 12] (fun w' => w'.cell? ⟨wr.heap.size, 0, none⟩ = some (.int .i64 d) ∧ w'.cell? ⟨wr.heap.size, 1, none⟩ = some (.bool na) ∧ w'.cell? ⟨wr.heap.size, 2, none⟩ = some (.bool an) ∧ w'.cell? ⟨wr.heap.size, 3, none⟩ = some (.bool ca)) (by kernel_rfl) (by kernel_rfl) (fun _ _ d _ _ h => by cases d <;> exact h) ⟨cell_heap HA1.out rfl, cell_heap HA1.out rfl, cell_heap HA1.out rfl, cell_heap HA1.out rfl⟩ ?_
      iterate 7 (refine wpHead_cons (v := ?_) rfl (by rfl) ?_ ?_; rotate_left 1; (focus (rintro w0 -; go_simp; first | done | with_reducible rfl)); simp only [Act.put, List.setIfInBounds_toArray, List.set_cons_zero, List.set_cons_succ])
      refine wpHead_nil ?_
      iterate 4 (refine wpHead_cons (v := ?_) rfl (by rfl) ?_ ?_; rotate_left 1; (focus (rintro w0 ⟨s1, s2, s3, s4⟩; go_simp; first | done | with_reducible rfl)); simp only [Act.put, List.setIfInBounds_toArray, List.set_cons_zero, List.set_cons_succ])
      refine wpHead_nil ?_
      refine wpTailL_keep rfl (by rfl) (fun KK hKK => ?_)
      go_simp
      refine (addr_any k (by omega) _).mono ?_
      rintro e wb ⟨rfl, hb1⟩
      have hbb : Below wa.heap.size wa wb := (Below.refl _ _).drew.trans hb1
      have HB1 : Hid (wb.heap[wr.heap.size]? = some (.cells #[.int .i64 d, .bool na, .bool an, .bool ca] 40 (0, 0))) := heap_below hbb HA1.out
      refine hKK.out _ _ ⟨cell_heap HB1.out rfl, cell_heap HB1.out rfl, cell_heap HB1.out rfl, cell_heap HB1.out rfl⟩ ?_
      clear hKK KK
      refine wpTailL_keep rfl (by rfl) (fun KK hKK => ?_)
      go_simp
      refine (add0_any d _ hdd.1 hdd.2).mono ?_
      rintro e we ⟨rfl, hb2⟩
      have HE1 : Hid (we.heap[wr.heap.size]? = some (.cells #[.int .i64 d, .bool na, .bool an, .bool ca] 40 (0, 0))) := heap_below hb2 HB1.out
      refine hKK.out _ _ ⟨cell_heap HE1.out rfl, cell_heap HE1.out rfl, cell_heap HE1.out rfl, cell_heap HE1.out rfl⟩ ?_
      clear hKK KK
      have hbe : Below wr.heap.size wr we := (hba.trans (hbb.mono hba.size)).trans (hb2.mono (Nat.le_trans hba.size hbb.size))
      clear hb1 hb2 hbb hba HA1 HB1
      refine wpTailL_list _ _ _ rfl ?_
      simp only [List.filterMap_cons, List.filterMap_nil, List.getElem?_cons_succ, List.getElem?_cons_zero]
      unfold tm
      go_upto_region 10 with fail
      obtain ⟨c0, hc0⟩ : ∃ c : Array Value, c = #[.string (name k), .int .u64 (d % 1000000000), .int .i64 (d / 1000000000), .pointer none, .int .i64 (k : Int), .bool an, .bool ca, .int .u64 0, .bool na] := ⟨_, rfl⟩
      rw [← hc0]
      obtain ⟨wf, hwf⟩ : ∃ x, x = we.alloc (.cells c0 49) := ⟨_, rfl⟩
      rw [← hwf]
      have hf1 : wf.heap[we.heap.size]? = some (.cells c0 49 (0, 0)) := by rw [hwf]; exact heap_alloc_new _ _
      have hbf : Below wr.heap.size wr wf := by rw [hwf]; exact hbe.alloc hbe.size _
      have hf2 : wf.heap[wr.heap.size]? = some (.cells #[.int .i64 d, .bool na, .bool an, .bool ca] 40 (0, 0)) := by rw [hwf]; exact heap_old HE1.out _
      have hwz := hbe.size
      have hPp := heap_below hbf HSS.out.pp
      obtain ⟨px, hpx⟩ := HSS.out.pn k (Nat.le_refl _) hlt
      have q1 := cell_heap hPp hpx
      have q2 := frozen_heap (o := k) hPp
      have HC0 := Hid.mk hc0
      have HF1 := Hid.mk hf1
      have HF2 := Hid.mk hf2
      clear hc0 hwf hf1 hf2 hPp hpx HE1
      obtain ⟨NB, hNB⟩ : ∃ x, we.heap.size = x := ⟨_, rfl⟩
      rw [hNB] at HF1 hwz ⊢
      clear hNB hbe
      go_upto_region 11 with fail
      obtain ⟨wp, hwp⟩ : ∃ x, x = wf.setCell ⟨w.heap.size + 2, k, none⟩ (.pointer (some ⟨NB, 0, none⟩)) := ⟨_, rfl⟩
      rw [← hwp]
      have hDp : wp.heap[w.heap.size + 1]? = some (.cells Dc 38 (0, 0)) := by rw [hwp]; exact (Below.heap_setCell _ _ _ _ (by simp)).trans (heap_below hbf HSS.out.dd)
      have hNp : wp.heap[NB]? = some (.cells c0 49 (0, 0)) := by
        rw [hwp]
        have h1 := lt_of_heap HSS.out.pp
        exact (Below.heap_setCell _ _ _ _ (by simp; omega)).trans HF1.out
      have hIp : wp.heap[wr.heap.size]? = some (.cells #[.int .i64 d, .bool na, .bool an, .bool ca] 40 (0, 0)) := by
        rw [hwp]
        have h1 := lt_of_heap HSS.out.pp
        exact (Below.heap_setCell _ _ _ _ (by simp; omega)).trans HF2.out
      have hKp : Known wp w.heap.size k (names k) k := HSS.out.kn.kept (by
        rw [hwp]
        exact (Below.heap_setCell _ _ _ _ (by simp)).trans (hbf.block _ (HSS.out.kn.elim (fun _ hh => hh.1.lt))))
      obtain ⟨wm, hrun, hKm, hgm⟩ := (hKp.kept (w' := wp.drew) rfl).put (by unfold maxLen; omega) (name_size k)
      rw [names_new (by omega)] at hKm
      have hKm' : Known wm w.heap.size (k + 1) (names (k + 1)) (k + 1) := hKm
      have hDm : wm.heap[w.heap.size + 1]? = some (.cells Dc 38 (0, 0)) := (hgm.block _ (lt_of_heap hDp) (by simp)).trans hDp
      have hIm : wm.heap[wr.heap.size]? = some (.cells #[.int .i64 d, .bool na, .bool an, .bool ca] 40 (0, 0)) := (hgm.block _ (lt_of_heap hIp) (by have := HSS.out.bel.size; have h1 := lt_of_heap HSS.out.pp; simp; omega)).trans hIp
      rw [hwp] at hgm
      have HMID : Hid (∀ (wl : World) (Ec : Array Value), wl.heap[w.heap.size + 1]? = some (.cells Ec 38 (0, 0)) → (∀ b, b ≠ w.heap.size + 1 → wl.heap[b]? = wm.heap[b]?) → (∀ B, B ≤ w.heap.size + 1 → Below B wm wl) → (Ec.size = 9 ∧ Ec[4]? = Dc[4]? ∧ Ec[6]? = Dc[6]? ∧ Ec[7]? = Dc[7]? ∧ Ec[8]? = Dc[8]? ∧ Ec[5]? = some (.int .i64 (lst X (k + 1)))) →
          Mid w wl (w.heap.size + 1) w.heap.size (w.heap.size + 2) n k X (ext PB k NB) f6 f7 m6 m7 v6 v7 Ec (Pc.setIfInBounds k (.pointer (some ⟨NB, 0, none⟩))) c0) := fun wl Ec a1 a2 a3 a4 => mid_of HSS.out hlt hbf hwz HF1.out hgm hKm' a1 a2 a3 a4
      have HDM := Hid.mk hDm
      have HIM := Hid.mk hIm
      have r1 := cell_heap hDp HSS.out.c4
      have r2 : wp.cell? ⟨NB, 0, none⟩ = some (.string (name k)) := cell_heap hNp (by rw [HC0.out]; rfl)
      have HRUN := Hid.mk hrun
      clear hwp hDp hNp hIp hKp hrun hKm hKm' hgm hDm hIm HF1 HF2 q1 q2
      refine wp_region_pick [0, 1, 2, 3, 4, 5, 6, 7] [8] [0, 1, 2, 3, 4, 5, 6, 7] (fun w' => w'.cell? ⟨w.heap.size + 1, 4, none⟩ = some (.map (some w.heap.size)) ∧ w'.cell? ⟨NB, 0, none⟩ = some (.string (name k))) (by kernel_rfl) (by kernel_rfl) (fun _ _ d _ _ h => by cases d <;> exact h) ⟨r1, r2⟩ ?_
      iterate 8 (refine wpHead_cons (v := ?_) rfl (by rfl) ?_ ?_; rotate_left 1; (focus (rintro w0 ⟨s1, s2⟩; go_simp; first | done | with_reducible rfl)); simp only [Act.put, List.setIfInBounds_toArray, List.set_cons_zero, List.set_cons_succ])
      refine wpHead_nil ?_
      refine wpTail_list _ _ _ rfl ?_
      simp only [List.filterMap_cons, List.filterMap_nil, List.getElem?_cons_succ, List.getElem?_cons_zero]
      have hrun := HRUN.out
      have t1 := cell_heap HIM.out (show (#[.int .i64 d, .bool na, .bool an, .bool ca] : Array Value)[1]? = some (.bool na) from rfl)
      have t2 := cell_heap HDM.out HSS.out.c5
      have t3 := frozen_heap (o := 5) HDM.out
      clear r1 r2 HRUN
      have hll := lst_le X k
      have hwl : IntKind.i64.wrap ((lst X k : Int) + 1) = (lst X k : Int) + 1 := by rw [IntKind.wrap_i64]; omega
      go_upto_if 75 with fail
      go_cut [8] from 42 to 86 (fun v wl => v = .pointer (some ⟨ext PB k NB k, 0, none⟩) ∧ ∃ Ec, Mid w wl (w.heap.size + 1) w.heap.size (w.heap.size + 2) n k X (ext PB k NB) f6 f7 m6 m7 v6 v7 Ec (Pc.setIfInBounds k (.pointer (some ⟨NB, 0, none⟩))) c0)
      case first =>
        cases na
        · go_wp2_with fail
          go_meet
          refine ⟨by rw [ext_at], _, HMID.out _ _ (heap_setCell_same HDM.out _) (fun b hb => Below.heap_setCell _ _ _ _ hb) (fun B hB => (Below.refl _ _).setCell hB _) ⟨by simp [HSS.out.ds], ?_, ?_, ?_, ?_, ?_⟩⟩
          · rw [Array.getElem?_setIfInBounds_ne (by omega)]
          · rw [Array.getElem?_setIfInBounds_ne (by omega)]
          · rw [Array.getElem?_setIfInBounds_ne (by omega)]
          · rw [Array.getElem?_setIfInBounds_ne (by omega)]
          · have hds := HSS.out.ds
            rw [Array.getElem?_setIfInBounds, if_pos rfl, if_pos (by omega)]
            rw [show lst X (k + 1) = lst X k + (if (X k).nam then 0 else 1) from rfl, hna]
            simp
        · go_wp2_with fail
          go_meet
          refine ⟨by rw [ext_at], Dc, HMID.out _ _ HDM.out (fun b hb => rfl) (fun B hB => Below.refl _ _) ⟨HSS.out.ds, rfl, rfl, rfl, rfl, ?_⟩⟩
          rw [HSS.out.c5]
          rw [show lst X (k + 1) = lst X k + (if (X k).nam then 0 else 1) from rfl, hna]
          simp
      case rest =>
        obtain ⟨rfl, Ec, hM⟩ := hcut
        have HM := Hid.mk hM
        clear hM t1 t2 t3 hrun HDM HIM HMID
        go_wp2_with fail
        have hc0 := HC0.out
        refine (mid_queue HM.out (by omega) (by rw [hc0, han]; rfl) ⟨0, by rw [hc0]; rfl⟩ (by rw [hc0]; unfold Item.cells; rw [hd, hna, han, hca, HST.out k]; rfl)).mono ?_
        rintro e wx ⟨rfl, hq⟩
        have HST2 : Hid (Stage w wx n (k + 1) X) := by
          obtain ⟨g6, g7, p6, p7, u6', u7', Fc, hh⟩ := mid_done HM.out hq
          exact ⟨_, g6, g7, p6, p7, u6', u7', Fc, _, hh⟩
        clear hq hc0
        go_wp2_with fail
        go_roundw
        case rel => exact ⟨k + 1, by omega, by go_num, HST2.out⟩
        case measure => simp [intOf]; omega
      --]]1
    · obtain rfl : k = n := by omega
      clear hlt
      obtain ⟨PB, f6, f7, m6, m7, v6, v7, Dc, Pc, hs⟩ := HS.out
      have HSS := Hid.mk hs
      clear hs HS
      go_wp2_with (at_make; refine wpList_make_block _ rfl _ _ 51 rfl 49 i9 _ 9 Yba.underlying51 hi9 hz0 hz1 k k rfl rfl (by omega) (by rw [hz2]; omega) (by unfold maxLen; omega) ?_; intro w2 hA2 hb2 hs2)
      obtain ⟨Vc0, hV0, hA2'⟩ : ∃ z : Array Value, z.size = k * 9 ∧ w2.heap[wr.heap.size]? = some (.cells z 49 (0, 0)) := ⟨_, size_madeCells _ _, hA2⟩
      obtain ⟨wq, rfl⟩ : ∃ x, x = wr := ⟨wr, rfl⟩
      clear hA2 hs2
      go_loopw [10, 91] (fun _ c wx => ∃ (t : Nat) (Vc : Array Value), t ≤ k ∧ c = .int .i64 (t : Int) ∧ wx.heap[wq.heap.size]? = some (.cells Vc 49 (0, 0)) ∧ Copies Vc k t X ∧ Below wq.heap.size wq wx) (fun _ c _ => k - (intOf c).toNat)
      case atStart => exact ⟨0, Vc0, by omega, rfl, hA2', ⟨hV0, fun _ h => absurd h (Nat.not_lt_zero _)⟩, hb2⟩
      case round =>
        clear hA2' hb2 hV0
        obtain ⟨t, Vc, ht, rfl, hV, hC, hb⟩ := hrel
        have HV := Hid.mk hV
        clear hV
        by_cases htl : t < k
        · --[[2
          have hpp := heap_below hb HSS.out.pp
          have c1 := cell_heap hpp (HSS.out.pr t htl)
          have hit := heap_below hb (HSS.out.it t htl)
          obtain ⟨p1, p2⟩ := item_at hit
          have hvs := hC.size
          have p3 : has9 wr wq.heap.size (t * 9) := by unfold has9; rw [blk_of HV.out]; omega
          have hst49 := run_store49 wr wq.heap.size (t * 9) (X t) (name t) t (HST.out t) p3 ⟨_, _, HV.out⟩
          obtain ⟨Wc, hW1, hW2, hW3⟩ := put9_heap (o := t * 9) HV.out (show ((X t).cells t).size = 9 from rfl) (by omega)
          have HW : Hid ((put9 wr wq.heap.size (t * 9) ((X t).cells t)).heap[wq.heap.size]? = some (.cells Wc 49 (0, 0)) ∧ Copies Wc k (t + 1) X ∧ Below wq.heap.size wq (put9 wr wq.heap.size (t * 9) ((X t).cells t))) := ⟨hW1, hC.put hW2 hW3, below_put9 hb (Nat.le_refl _) _ _⟩
          have t0 : (0 : Int) ≤ (t : Int) := by omega
          have t1 : (t : Int) < (k : Int) := by omega
          clear hpp hit hW1 hW2 hW3 hC
          go_wp2_with fail
          go_roundw
          case rel => exact ⟨t + 1, Wc, by omega, by go_num, HW.out.1, HW.out.2.1, HW.out.2.2⟩
          case measure => simp [intOf]; omega
          --]]2
        · obtain rfl : t = k := by omega
          clear htl
          have HC := Hid.mk hC
          clear hC
          obtain ⟨a7, e7, rfl⟩ : ∃ a c, v7 = .slice a m7 c := by
            rcases HSS.out.q7.own.2 with ⟨h1, h2⟩ | ⟨g, cap, _, h1, _⟩
            · exact ⟨none, 0, by rw [h1, h2]⟩
            · exact ⟨_, _, h1⟩
          obtain ⟨a6, e6, rfl⟩ : ∃ a c, v6 = .slice a m6 c := by
            rcases HSS.out.q6.own.2 with ⟨h1, h2⟩ | ⟨g, cap, _, h1, _⟩
            · exact ⟨none, 0, by rw [h1, h2]⟩
            · exact ⟨_, _, h1⟩
          have l6 := HSS.out.q6.le
          have l7 := HSS.out.q7.le
          have hD := heap_below hb HSS.out.dd
          have d7 := cell_heap hD HSS.out.c7
          have HB := Hid.mk hb
          clear hD hb
          go_wp2_with fail
          refine (clone_any m7 w.heap.size _ PB f7 _ (by omega) (own_below HSS.out.q7.own HB.out)).mono ?_
          rintro e w3 ⟨o0, rfl, ho0, hb3⟩
          have HB3 : Hid (Below wq.heap.size wq w3) := HB.out.trans (hb3.mono HB.out.size)
          have HO0 := Hid.mk ho0
          have HV3 := Hid.mk (heap_below hb3 HV.out)
          have hD3 := heap_below HB3.out HSS.out.dd
          have d6 := cell_heap hD3 HSS.out.c6
          clear ho0 hb3 d7 hD3
          go_wp2_with fail
          refine (clone_any m6 w.heap.size _ PB f6 _ (by omega) (own_below HSS.out.q6.own HB3.out)).mono ?_
          rintro e w4 ⟨a0', rfl, hoa, hb4⟩
          have HB4 : Hid (Below wq.heap.size wq w4) := HB3.out.trans (hb4.mono HB3.out.size)
          have HOA := Hid.mk hoa
          have HO1 := Hid.mk (own_below HO0.out hb4)
          have HV4 := Hid.mk (heap_below hb4 HV3.out)
          have hw34 := hb4.size
          have hD4 := heap_below HB4.out HSS.out.dd
          have d5 := cell_heap hD4 HSS.out.c5
          have d8 := cell_heap hD4 HSS.out.c8
          have hbw4 : Below w.heap.size w w4 := HSS.out.bel.trans (HB4.out.mono HSS.out.bel.size)
          have HBW4 := Hid.mk hbw4
          clear hoa hb4 d6 hD4 hbw4
          go_wp2_with fail
          refine (pick_any _ t cap X false _ hn (HX.out.below HBW4.out)).mono ?_
          rintro e w5 ⟨⟨r1, rfl, hr1⟩, hb5⟩
          have HR1 := Hid.mk hr1
          have HB5 := Hid.mk hb5
          clear hr1 hb5
          go_upto_if 125 with fail
          go_cut [15] from 124 to 127 (fun v wx => ∃ z : Int, v = .int .i64 z ∧ PickAll X t z ∧ Below w4.heap.size w4 wx)
          case first =>
            rcases HR1.out with ⟨hz, hno⟩ | ⟨j, hz, hj, hl⟩
            · have hzd : decide (r1 < 0) = true := by rw [hz]; rfl
              have hzp : r1 < 0 := by omega
              have HNO := Hid.mk hno
              clear hz hno
              go_wp2_with fail
              have hb5 := HB5.out
              refine (pick_any _ t cap X true _ hn ((HX.out.below HBW4.out).below hb5)).mono ?_
              rintro e w6 ⟨⟨r2, rfl, hr2⟩, hb6⟩
              have HR2 := Hid.mk hr2
              have HB6 : Hid (Below w4.heap.size w4 w6) := hb5.trans (hb6.mono hb5.size)
              clear hr2 hb6 hb5
              go_wp2_with fail
              go_meet
              refine ⟨r2, rfl, ?_, HB6.out⟩
              rcases HR2.out with ⟨hz, hno⟩ | ⟨j, hz, hj, hl⟩
              · exact .inl ⟨hz, HNO.out, hno⟩
              · exact .inr (.inr ⟨j, hz, hj, HNO.out, hl⟩)
            · have hzd : decide (r1 < 0) = false := by rw [hz]; simp
              have hzn : ¬ r1 < 0 := by omega
              have HZ := Hid.mk hz
              clear hz
              go_wp2_with fail
              go_meet
              exact ⟨r1, rfl, .inr (.inl ⟨j, HZ.out, hj, hl⟩), HB5.out⟩
          case rest =>
            obtain ⟨z, rfl, hpk, hb6⟩ := hcut
            have HPK := Hid.mk hpk
            have HB6 : Hid (Below wq.heap.size wq wc) := HB4.out.trans (hb6.mono HB4.out.size)
            have HV6 := Hid.mk (heap_below hb6 HV4.out)
            have HO6 := Hid.mk (own_below HO1.out hb6)
            have HOA6 := Hid.mk (own_below HOA.out hb6)
            clear hpk hb6 d5 d8 HR1 HB5
            go_wp2_with fail
            refine (room_any (w.heap.size + 1) w.heap.size w.heap.size t t m6 m7 X PB f6 f7 (Go.Proofs.Ybulkdzgm.names t) (lst X t) _ _ Dc _ (heap_below HB6.out HSS.out.dd) (HSS.out.kn.kept (HB6.out.block _ (HSS.out.kn.elim (fun _ hh => hh.1.lt)))) HSS.out.c4 HSS.out.c5 (HSS.out.queue7 (by omega) HB6.out) (HSS.out.queue6 (by omega) HB6.out) (HSS.out.names HST.out) (HSS.out.listed (by omega))).mono ?_
            intro e w7 hmade
            obtain ⟨r, rfl⟩ := hmade.ret
            obtain ⟨Ec, hE, hE8, hE4⟩ := hmade.dialer (heap_below HB6.out HSS.out.dd)
            have hsz6 := HB6.out.size
            have k49 : ∀ {b : Nat} {c : Array Value} {ty : TypeId}, wc.heap[b]? = some (.cells c ty (0, 0)) → ty ≠ 38 → ty ≠ 41 → w7.heap[b]? = some (.cells c ty (0, 0)) := fun {b c ty} hb h38 h41 => by
              refine (hmade.keep (lt_of_heap hb) (fun e => ?_) (fun e => ?_) (own_ne (own_below HSS.out.q6.own HB6.out) hb h41) (own_ne (own_below HSS.out.q7.own HB6.out) hb h41)).trans hb
              · rw [e, heap_below HB6.out HSS.out.dd] at hb; simp at hb; exact h38 hb.2.symm
              · exact (HSS.out.kn.kept (HB6.out.block _ (HSS.out.kn.elim (fun _ hh => hh.1.lt)))).ne hb e.symm
            have hV7 := k49 HV6.out (by decide) (by decide)
            have hit7 : ∀ i, i < t → w7.heap[PB i]? = some (.cells ((X i).cells i) 49 (0, 0)) := fun i hi => k49 (heap_below HB6.out (HSS.out.it i hi)) (by decide) (by decide)
            have hpp7 : w7.heap[w.heap.size + 2]? = some (.cells Pc 41 (0, 0)) := (hmade.keep (lt_of_heap (heap_below HB6.out HSS.out.pp)) (by omega) (by omega) HSS.out.n6 HSS.out.n7).trans (heap_below HB6.out HSS.out.pp)
            have hbw7 : Below w.heap.size w w7 := (HSS.out.bel.trans (HB6.out.mono HSS.out.bel.size)).trans (hmade.below (Nat.le_trans HSS.out.bel.size hsz6) HSS.out.lD HSS.out.lm (fun b hb => (HSS.out.q6.own.lt b hb).1) (fun b hb => (HSS.out.q7.own.lt b hb).1))
            have HMD := Hid.mk hmade
            have HE := Hid.mk hE
            have HE8 := Hid.mk hE8
            have HE4 := Hid.mk hE4
            have HV7 := Hid.mk hV7
            have HIT := Hid.mk hit7
            have HPP := Hid.mk hpp7
            have HBW7 := Hid.mk hbw7
            clear hmade hE hE8 hE4 hV7 hit7 hpp7 hbw7 k49 hsz6
            go_wp2_with fail
            go_loopw [17, 132] (fun _ c wx => ∃ q : Nat, q ≤ t ∧ c = .int .i64 (q : Int) ∧ Below w7.heap.size w7 wx) (fun _ c _ => t - (intOf c).toNat)
            case atStart => exact ⟨0, by omega, rfl, Below.refl _ _⟩
            case round =>
              obtain ⟨q, hq, rfl, hbx⟩ := hrel
              by_cases hql : q < t
              · --[[3
                have c1 := cell_heap (heap_below hbx HPP.out) (HSS.out.pr q hql)
                obtain ⟨p1, p2⟩ := item_at (heap_below hbx (HIT.out q hql))
                obtain ⟨p3, p4⟩ := HC.out.at (heap_below hbx HV7.out) hql (Nat.le_refl _)
                have he := fun n => run_eq49 (X q) (name q) q (HST.out q) (wr.drewN n)
                have q0 : (0 : Int) ≤ (q : Int) := by omega
                have q1 : (q : Int) < (t : Int) := by omega
                go_wp2_with fail
                go_quiet (fail)
                go_wp2_with fail
                go_roundw
                case rel => exact ⟨q + 1, by omega, by go_num, below_drewN hbx _⟩
                case measure => simp [intOf]; omega
                --]]3
              · obtain rfl : q = t := by omega
                clear hql
                have e8 : wr.cell? ⟨w.heap.size + 1, 8, none⟩ = some (.int .u64 (q : Int)) := cell_heap (heap_below hbx HE.out) (HE8.out.trans HSS.out.c8)
                have hw67 : ∀ {u : Value} {mm bb : Nat} {ff : Nat → Nat}, wc.ownsRow bb 41 1 u mm (ptrs PB ff mm) → wq.heap.size ≤ bb → PRow w7 u mm PB ff := fun {u mm bb ff} ho hbb => PRow.of (own_heap ho (fun b hb' => by
                  have h1 := ho.lt b hb'
                  have h2 := lt_of_heap HSS.out.dd
                  have h3 : w.heap.size < wq.heap.size := HSS.out.kn.elim (fun _ hh => hh.1.lt)
                  exact HMD.out.keep h1.2 (by omega) (by omega) (fun e => by have := (HSS.out.q6.own.lt b e).2; omega) (fun e => by have := (HSS.out.q7.own.lt b e).2; omega)))
                have hP7 := hw67 HO6.out HB.out.size
                have hP6 := hw67 HOA6.out HB3.out.size
                have HWAY : Hid ((r = false ∧ NoneIn X f7 m7 ∧ NoneIn X f6 m6 ∧ Below wc.heap.size wc w7) ∨ (r = true ∧ ∃ (a : Bool) (jj m' mo : Nat) (f F fo : Nat → Nat) (v' vo : Value) (Gc : Array Value), z = (jj : Int) ∧ Went w7 (w.heap.size + 1) w.heap.size w.heap.size q X PB a jj m' mo f F fo v' vo Gc ∧
                    PRow w7 (if a then a0' else o0) (m' + 1) PB f ∧ PRow w7 (if a then o0 else a0') mo PB fo)) := by
                  have s7 : Half wc w.heap.size q X PB false m7 f7 _ := HSS.out.q7.kept (fun b hb' => HB6.out.block b (HSS.out.q7.own.lt b hb').2)
                  have s6 : Half wc w.heap.size q X PB true m6 f6 _ := HSS.out.q6.kept (fun b hb' => HB6.out.block b (HSS.out.q6.own.lt b hb').2)
                  have hKc : Known wc w.heap.size q (Go.Proofs.Ybulkdzgm.names q) q := HSS.out.kn.kept (HB6.out.block _ (HSS.out.kn.elim (fun _ hh => hh.1.lt)))
                  have hDc := heap_below HB6.out HSS.out.dd
                  rcases HMD.out with ⟨hr, hn7, hn6, hb7⟩ | ⟨hr, tt, hg⟩ | ⟨hr, hn7, tt, hg⟩
                  · exact .inl ⟨by simpa using hr, hn7, hn6, hb7⟩
                  · obtain ⟨m', F, v', Gc, hm', hw⟩ := went_of (a := false) rfl HSS.out.ds s7 s6 HSS.out.ne hDc hKc HSS.out.c6 HST.out hg
                    refine .inr ⟨by simpa using hr, false, f7 tt, m', m6, f7, F, f6, v', _, Gc, ?_, hw, by rw [← hm']; exact hP7, hP6⟩
                    rcases HPK.out with ⟨_, h, _⟩ | ⟨j, hz, hj, hl⟩ | ⟨j, _, _, h, _⟩
                    · exact absurd hw.last (h _ hw.jl)
                    · rw [hz, last_one hj hw.jl hl hw.last]
                    · exact absurd hw.last (h _ hw.jl)
                  · obtain ⟨m', F, v', Gc, hm', hw⟩ := went_of (a := true) rfl HSS.out.ds s6 s7 (fun b hb' e => HSS.out.ne b e hb') hDc hKc HSS.out.c7 HST.out hg
                    refine .inr ⟨by simpa using hr, true, f6 tt, m', m7, f6, F, f7, v', _, Gc, ?_, hw, by rw [← hm']; exact hP6, hP7⟩
                    have hno := (none_of (n := q) HSS.out.q7.rng HSS.out.q7.onto).1 hn7
                    rcases HPK.out with ⟨_, _, h⟩ | ⟨j, hz, hj, hl⟩ | ⟨j, hz, hj, _, hl⟩
                    · exact absurd hw.last (h _ hw.jl)
                    · have := hl.1; rw [hno j hj] at this; cases this
                    · rw [hz, last_one hj hw.jl hl hw.last]
                clear hP7 hP6 hw67
                rcases HWAY.out with ⟨hr, hn7, hn6, hb7⟩ | ⟨hr, aa, jj, m', mo, f, F, fo, v', vo, Gc, hz, hw, hp0, hpo⟩
                · --[[A
                  subst hr
                  have n7 := (none_of (n := q) HSS.out.q7.rng HSS.out.q7.onto).1 hn7
                  have n6 := (none_of (n := q) HSS.out.q6.rng HSS.out.q6.onto).1 hn6
                  have hz : z = -1 := by
                    rcases HPK.out with ⟨h, _⟩ | ⟨j, _, hj, hl⟩ | ⟨j, _, hj, _, hl⟩
                    · exact h
                    · have := hl.1; rw [n7 j hj] at this; cases this
                    · have := hl.1; rw [n6 j hj] at this; cases this
                  subst hz
                  have hbA : Below wq.heap.size wq wr := (HB6.out.trans (hb7.mono HB6.out.size)).trans (hbx.mono (Nat.le_trans HB6.out.size hb7.size))
                  have hDA := heap_below hbA HSS.out.dd
                  have e5 := cell_heap hDA HSS.out.c5
                  have e4 := cell_heap hDA HSS.out.c4
                  have e6' := cell_heap hDA HSS.out.c6
                  have e7' := cell_heap hDA HSS.out.c7
                  have hKA : Known wr w.heap.size q (Go.Proofs.Ybulkdzgm.names q) q := HSS.out.kn.kept (hbA.block _ (HSS.out.kn.elim (fun _ hh => hh.1.lt)))
                  have hlen := hKA.len
                  have HKA := Hid.mk hKA
                  have HBA := Hid.mk hbA
                  clear hn7 hn6 n7 n6 hKA hDA hbA
                  go_wp2_with fail
                  obtain ⟨wy, rfl⟩ : ∃ x, x = wr := ⟨wr, rfl⟩
                  go_loopw [18, 175] (fun _ c wx => ∃ p : Nat, p ≤ q ∧ c = .int .i64 (p : Int) ∧ Below wy.heap.size wy wx) (fun _ c _ => q - (intOf c).toNat)
                  case atStart => exact ⟨0, by omega, rfl, Below.refl _ _⟩
                  case round =>
                    clear e8 e5 hlen
                    obtain ⟨p, hp, rfl, hby⟩ := hrel
                    have hbZ : Below wq.heap.size wq wr := HBA.out.trans (hby.mono HBA.out.size)
                    have hDZ := heap_below hbZ HSS.out.dd
                    have z4 := cell_heap hDZ HSS.out.c4
                    have z6 := cell_heap hDZ HSS.out.c6
                    have z7 := cell_heap hDZ HSS.out.c7
                    by_cases hpl : p < q
                    · have c1 := cell_heap (heap_below hbZ HSS.out.pp) (HSS.out.pr p hpl)
                      have c2 : wr.cell? ⟨PB p, 0, none⟩ = some (.string (name p)) := by rw [← HST.out p]; exact cell_heap (heap_below hbZ (HSS.out.it p hpl)) rfl
                      have hTp : Go.Proofs.Ybulkdzgm.names q (name p) = true := (names_iff q).2 ⟨p, hpl, rfl⟩
                      have hlk : ∀ n, (Instr.lookup 24 (.map (some w.heap.size)) (.string (name p)) false).run Yba.prog (wr.drewN n) = .ok (.bool true) (wr.drewN n) := fun n => by
                        have h1 := ((HKA.out.kept (hby.block _ (HKA.out.elim (fun _ hh => hh.1.lt)))).kept (w' := wr.drewN n) rfl).look (name_size p)
                        rw [hTp] at h1
                        exact h1
                      have p0 : (0 : Int) ≤ (p : Int) := by omega
                      have p1 : (p : Int) < (q : Int) := by omega
                      clear hDZ
                      go_wp2_with fail
                      go_quiet (fail)
                      go_wp2_with fail
                      go_roundw
                      case rel => exact ⟨p + 1, by omega, by go_num, below_drewN hby _⟩
                      case measure => simp [intOf]; omega
                    · obtain rfl : p = q := by omega
                      have HBZ := Hid.mk hbZ
                      clear hDZ hbZ z4 hpl
                      have hbig : Below wc.heap.size wc wr := (hb7.trans (hbx.mono hb7.size)).trans (hby.mono (Nat.le_trans hb7.size hbx.size))
                      have hP7 := PRow.of (own_below HSS.out.q7.own HBZ.out)
                      have hP7' := PRow.of (own_below HO6.out hbig)
                      have hP6 := PRow.of (own_below HSS.out.q6.own HBZ.out)
                      have hP6' := PRow.of (own_below HOA6.out hbig)
                      have HP7 := Hid.mk hP7
                      have HP7' := Hid.mk hP7'
                      have HP6 := Hid.mk hP6
                      have HP6' := Hid.mk hP6'
                      clear hP7 hP7' hP6 hP6'
                      go_wp2_with fail
                      refine (equal_any m7 _ _ PB f7 _ (by omega) HP7.out HP7'.out (fun i hi => ⟨_, _, heap_below HBZ.out (HSS.out.it _ (HSS.out.q7.rng i hi).1)⟩)).mono ?_
                      rintro e w8 ⟨rfl, hb8⟩
                      have z6' := cell_below hb8 z6
                      have HB8 := Hid.mk hb8
                      clear hb8 z6 z7
                      go_wp2_with fail
                      refine (equal_any m6 _ _ PB f6 _ (by omega) (HP6.out.below HB8.out) (HP6'.out.below HB8.out) (fun i hi => ⟨_, _, heap_below HB8.out (heap_below HBZ.out (HSS.out.it _ (HSS.out.q6.rng i hi).1))⟩)).mono ?_
                      rintro e w9 ⟨rfl, hb9⟩
                      have HB9 := Hid.mk hb9
                      clear hb9
                      go_wp2_with fail
                      go_ret
                      have g1 : Below w.heap.size w wr := HSS.out.bel.trans (HBZ.out.mono HSS.out.bel.size)
                      exact ⟨rfl, (g1.trans (HB8.out.mono g1.size)).trans (HB9.out.mono (Nat.le_trans g1.size HB8.out.size))⟩
                  --]]A
                · subst hr
                  subst hz
                  obtain ⟨x6, l6', k6, hW6⟩ : ∃ a l c, (if aa then v' else vo) = .slice a l c := by
                    have key : ∀ {u : Value} {mm : Nat} {xs : List Value}, w7.ownsRow w.heap.size 41 1 u mm xs → ∃ a l c, u = .slice a l c := fun {u mm xs} ho => by
                      rcases ho.2 with ⟨h1, _⟩ | ⟨g, cap, _, h1, _⟩
                      · exact ⟨_, _, _, h1⟩
                      · exact ⟨_, _, _, h1⟩
                    split
                    · exact key hw.own
                    · exact key hw.owno
                  obtain ⟨x7, l7', k7, hW7⟩ : ∃ a l c, (if aa then vo else v') = .slice a l c := by
                    have key : ∀ {u : Value} {mm : Nat} {xs : List Value}, w7.ownsRow w.heap.size 41 1 u mm xs → ∃ a l c, u = .slice a l c := fun {u mm xs} ho => by
                      rcases ho.2 with ⟨h1, _⟩ | ⟨g, cap, _, h1, _⟩
                      · exact ⟨_, _, _, h1⟩
                      · exact ⟨_, _, _, h1⟩
                    split
                    · exact key hw.owno
                    · exact key hw.own
                  have hDx := heap_below hbx hw.dd
                  have y6 : wr.cell? ⟨w.heap.size + 1, 6, none⟩ = some (.slice x6 l6' k6) := by
                    rw [← hW6]
                    refine cell_heap hDx ?_
                    have h1 := hw.cq
                    have h2 := hw.co
                    cases aa
                    · exact h2
                    · exact h1
                  have y7 : wr.cell? ⟨w.heap.size + 1, 7, none⟩ = some (.slice x7 l7' k7) := by
                    rw [← hW7]
                    refine cell_heap hDx ?_
                    have h1 := hw.cq
                    have h2 := hw.co
                    cases aa
                    · exact h1
                    · exact h2
                  have y0 := cell_heap (heap_below hbx HPP.out) (HSS.out.pr jj hw.jl)
                  have j0 : (0 : Int) ≤ (jj : Int) := by omega
                  have j1 : (jj : Int) < (q : Int) := by have := hw.jl; omega
                  have hjn : decide ((jj : Int) < 0) = false := by simp
                  have HWN := Hid.mk hw
                  have HP0 := Hid.mk hp0
                  have HPO := Hid.mk hpo
                  have HW6 := Hid.mk hW6
                  have HW7 := Hid.mk hW7
                  have HBX := Hid.mk hbx
                  clear hw hp0 hpo hW6 hW7 hDx hbx HWAY HMD
                  have hans := HWN.out.ans
                  have hjl := HWN.out.jl
                  obtain ⟨b, o, rfl, -, i2, i3, -⟩ := ((HX.out.below HBW7.out).below HBX.out).cells jj hjl
                  rw [hans] at i3
                  rw [HWN.out.nam] at i2
                  clear hans
                  go_wp2_with fail
                  go_quiet (fail)
                  go_upto_if 226 with fail
                  go_cut [20, 21, 22, 23] from 222 to 236 (fun s0 s1 s2 s3 wx => s0 = (if aa then a0' else o0) ∧ s1 = v' ∧ s2 = (if aa then o0 else a0') ∧ s3 = vo ∧ Below w7.heap.size w7 wx)
                  case first =>
                    cases aa
                    · go_wp2_with fail
                      go_meet
                      have h6 := HW6.out
                      have h7 := HW7.out
                      simp only [Bool.false_eq_true, if_false] at h6 h7
                      exact ⟨rfl, h7.symm, rfl, h6.symm, below_drewN HBX.out _⟩
                    · go_wp2_with fail
                      go_quiet (fail)
                      go_wp2_with fail
                      go_meet
                      have h6 := HW6.out
                      have h7 := HW7.out
                      simp only [if_true] at h6 h7
                      exact ⟨rfl, h6.symm, rfl, h7.symm, below_drewN (below_drewN HBX.out _) _⟩
                  case rest =>
                    obtain ⟨rfl, hs1, rfl, hs3, hb8⟩ := hcut
                    subst hs1
                    subst hs3
                    obtain ⟨Q0, hQ0⟩ : ∃ x, x = (if aa then a0' else o0) := ⟨_, rfl⟩
                    obtain ⟨QO, hQO⟩ : ∃ x, x = (if aa then o0 else a0') := ⟨_, rfl⟩
                    rw [← hQ0] at HP0 ⊢
                    rw [← hQO] at HPO ⊢
                    obtain ⟨x0, c0', hx0⟩ := HP0.out.len
                    obtain ⟨xo, co', hxo⟩ := HPO.out.len
                    have hP1 := PRow.of HWN.out.own
                    have hP3 := PRow.of HWN.out.owno
                    obtain ⟨x1, c1', hx1⟩ := hP1.len
                    obtain ⟨x3, c3', hx3⟩ := hP3.len
                    have HP1 := Hid.mk hP1
                    have HP3 := Hid.mk hP3
                    subst hx0 hxo hx1 hx3
                    have HB8 := Hid.mk hb8
                    have hmo := HWN.out.leo
                    have hml := HWN.out.le
                    have hblk : ∀ i, i < q → ∃ c t, wc.heap[PB i]? = some (.cells c t (0, 0)) := fun i hi => ⟨_, _, heap_below hb8 (HIT.out i hi)⟩
                    have HBLK := Hid.mk hblk
                    have hwm : IntKind.i64.wrap (m' : Int) = (m' : Int) := by rw [IntKind.wrap_i64]; omega
                    clear hP1 hP3 hb8 hQ0 hQO y6 y7 y0 HW6 HW7 i3 hblk
                    go_wp2_with fail
                    refine (equal_any mo _ _ PB fo _ (by omega) (HPO.out.below HB8.out) (HP3.out.below HB8.out) (fun i hi => HBLK.out _ (HWN.out.rngo i hi))).mono ?_
                    rintro e w9 ⟨rfl, hb9⟩
                    have HB9 := Hid.mk hb9
                    clear hb9
                    have hFinj := HWN.out.perm.inj HWN.out.inj
                    have hFr : ∀ i, i < m' + 1 → F i < q := fun i hi => by
                      obtain ⟨i', hi', e⟩ := HWN.out.perm.back i hi
                      rw [← e]; exact HWN.out.rng i' hi'
                    have HFI := Hid.mk hFinj
                    have HFR := Hid.mk hFr
                    clear hFinj hFr
                    go_wp2_with fail
                    refine (count_any m' jj _ PB F _ (by omega) ((HP1.out.below HB8.out).below HB9.out) (fun i hi e => HSS.out.inj _ _ (HFR.out i (by omega)) hjl e) (fun i hi => by obtain ⟨c, t, h⟩ := HBLK.out _ (HFR.out i (by omega)); exact ⟨c, t, heap_below HB9.out h⟩) (by obtain ⟨c, t, h⟩ := HBLK.out _ hjl; exact ⟨c, t, heap_below HB9.out h⟩)).mono ?_
                    rintro e w10 ⟨rfl, rfl⟩
                    rw [cnt_zero m' (fun i hi e => by have := HFI.out i m' (by omega) (by omega) (by rw [e, HWN.out.fm]); omega)]
                    go_wp2_with fail
                    obtain ⟨wk, rfl⟩ : ∃ x, x = w10 := ⟨w10, rfl⟩
                    go_loopw [25, 255] (fun _ c wx => ∃ p : Nat, p ≤ m' + 1 ∧ c = .int .i64 (p : Int) ∧ wx = wk) (fun _ c _ => m' + 1 - (intOf c).toNat)
                    case atStart => exact ⟨0, by omega, rfl, rfl⟩
                    case round =>
                      obtain ⟨p, hp, rfl, hwk⟩ := hrel
                      rw [hwk]
                      clear hwk
                      have hB19 := HB8.out.trans (HB9.out.mono HB8.out.size)
                      by_cases hpl : p < m' + 1
                      · --[[5
                        obtain ⟨g0, cc, h1, h2⟩ := (HP0.out.below hB19).ptr p hpl
                        cases h1
                        have hbk : ∀ i, i < q → ∃ c t, wk.heap[PB i]? = some (.cells c t (0, 0)) := fun i hi => by obtain ⟨c, t, h⟩ := HBLK.out i hi; exact ⟨c, t, heap_below HB9.out h⟩
                        obtain ⟨ca, ta, hca⟩ := hbk _ (HWN.out.rng p hpl)
                        obtain ⟨cb, tb, hcb⟩ := hbk _ hjl
                        have he := (run_eqp wk (PB (f p)) (PB jj) hca hcb).2
                        have p0 : (0 : Int) ≤ (p : Int) := by omega
                        have p1 : (p : Int) < (m' : Int) + 1 := by omega
                        clear hca hcb
                        by_cases hfj : f p = jj
                        · have hdd : decide (PB (f p) = PB jj) = true := by simp [hfj]
                          rw [hdd] at he
                          clear hfj hdd
                          go_wp2_with fail
                          go_roundw
                          case rel => exact ⟨p + 1, by omega, by go_num, by first | rfl | trivial⟩
                          case measure => simp [intOf]; omega
                        · have hdd : decide (PB (f p) = PB jj) = false := by
                            simp only [decide_eq_false_iff_not]
                            exact fun e => hfj (HSS.out.inj _ _ (HWN.out.rng p hpl) hjl e)
                          rw [hdd] at he
                          have HCN : Hid (cnt F (f p) m' = 1) := cnt_one m' (fun i j hi hj e => HFI.out i j (by omega) (by omega) e) (by
                            obtain ⟨i', hi', e⟩ := HWN.out.perm.fwd p hpl
                            refine ⟨i', ?_, e⟩
                            rcases Nat.lt_or_ge i' m' with h | h
                            · exact h
                            · have : i' = m' := by omega
                              rw [this, HWN.out.fm] at e
                              exact absurd e.symm hfj)
                          clear hdd
                          go_wp2_with fail
                          refine (count_any m' (f p) _ PB F _ (by omega) (HP1.out.below hB19) (fun i hi e => HSS.out.inj _ _ (HFR.out i (by omega)) (HWN.out.rng p hpl) e) (fun i hi => hbk _ (HFR.out i (by omega))) (hbk _ (HWN.out.rng p hpl))).mono ?_
                          rintro e w11 ⟨rfl, rfl⟩
                          rw [HCN.out]
                          go_wp2_with fail
                          go_roundw
                          case rel => exact ⟨p + 1, by omega, by go_num, by first | rfl | trivial⟩
                          case measure => simp [intOf]; omega
                        --]]5
                      · have hpn : ¬ ((p : Int) < (m' : Int) + 1) := by omega
                        have hpd : decide ((p : Int) < (m' : Int) + 1) = false := by simp; omega
                        clear hpl hp
                        have HB19 := Hid.mk hB19
                        clear hB19
                        go_wp2_with fail
                        clear hpn hpd
                        go_loopw [26] (fun c wx => ∃ p : Nat, 1 ≤ p ∧ p ≤ m' + 1 ∧ c = .int .i64 (p : Int) ∧ Below wk.heap.size wk wx) (fun c _ => m' + 1 - (intOf c).toNat)
                        case atStart => exact ⟨1, by omega, by omega, rfl, Below.refl _ _⟩
                        case round =>
                          obtain ⟨p, hp1, hp2, rfl, hby⟩ := hrel
                          have hbz : Below w7.heap.size w7 wr := HB19.out.trans (hby.mono HB19.out.size)
                          by_cases hpm : p < m'
                          · --[[6
                            obtain ⟨pp, hpp⟩ : ∃ x, par p = x := ⟨_, rfl⟩
                            have hppl : pp < p := by rw [← hpp]; exact par_lt (by omega)
                            have hdiv : ((p : Int) - 1) / 2 = (pp : Int) := by unfold par at hpp; omega
                            obtain ⟨g1, cc, h1, h2⟩ := (HP1.out.below hbz).ptr p hpm
                            cases h1
                            obtain ⟨g2, cc2, h3, h4⟩ := (HP1.out.below hbz).ptr pp (by omega)
                            cases h3
                            have hi1 := heap_below hbz (HIT.out _ (HFR.out p (by omega)))
                            have hi2 := heap_below hbz (HIT.out _ (HFR.out pp (by omega)))
                            have z1 := cell_heap hi1 (show ((X (F p)).cells (F p))[4]? = some (.int .i64 (F p : Int)) from rfl)
                            have z2 := cell_heap hi2 (show ((X (F pp)).cells (F pp))[4]? = some (.int .i64 (F pp : Int)) from rfl)
                            have p0 : (0 : Int) ≤ (p : Int) := by omega
                            have p1 : (p : Int) < (m' : Int) := by omega
                            have q0 : (0 : Int) ≤ (pp : Int) := by omega
                            have q1 : (pp : Int) < (m' : Int) := by omega
                            have hn0 : (0 : Int) ≤ (p : Int) - 1 := by omega
                            have htd : ((p : Int) - 1).tdiv 2 = (pp : Int) := by rw [Int.tdiv_eq_ediv_of_nonneg hn0]; exact hdiv
                            have hwp : IntKind.i64.wrap (pp : Int) = (pp : Int) := by rw [IntKind.wrap_i64]; omega
                            have hw1 : IntKind.i64.wrap ((p : Int) - 1) = (p : Int) - 1 := by rw [IntKind.wrap_i64]; omega
                            have HHP : Hid (bef X (F p) (F pp) = false) := by rw [← hpp]; exact HWN.out.heap p (by omega) hpm
                            clear hi1 hi2
                            go_wp2_with fail
                            refine wp_region_pick [0, 1, 2, 3, 4, 5, 6, 7, 8, 9, 10, 11, 12, 13, 14, 15, 16] [17] [0, 1, 2, 3, 4, 5, 6, 7, 8, 9, 10, 11, 12, 13, 14, 15, 16] (fun w' => w'.cell? ⟨g1, p, none⟩ = some (.pointer (some ⟨PB (F p), 0, none⟩)) ∧ w'.cell? ⟨g1, pp, none⟩ = some (.pointer (some ⟨PB (F pp), 0, none⟩)) ∧ w'.cell? ⟨PB (F p), 4, none⟩ = some (.int .i64 (F p : Int)) ∧ w'.cell? ⟨PB (F pp), 4, none⟩ = some (.int .i64 (F pp : Int))) (by kernel_rfl) (by kernel_rfl) (fun _ _ d _ _ h => by cases d <;> exact h) ⟨h2, h4, z1, z2⟩ ?_
                            iterate 17 (refine wpHead_cons (v := ?_) rfl (by rfl) ?_ ?_; rotate_left 1; (focus (rintro w0 ⟨s1, s2, s3, s4⟩; go_simp; first | done | with_reducible rfl)); simp only [Act.put, List.setIfInBounds_toArray, List.set_cons_zero, List.set_cons_succ])
                            refine wpHead_nil ?_
                            refine wpTail_list _ _ _ rfl ?_
                            simp only [List.filterMap_cons, List.filterMap_nil, List.getElem?_cons_succ, List.getElem?_cons_zero]
                            go_wp2_with fail
                            refine (before_any _ q cap (F p) (F pp) X _ (HFR.out p (by omega)) (HFR.out pp (by omega)) (((HX.out.below HBW7.out).below hbz).below (Below.refl _ _).drew)).mono ?_
                            rintro e w12 ⟨rfl, hb12⟩
                            rw [HHP.out]
                            have HBY : Hid (Below wk.heap.size wk w12) := hby.drew.trans (hb12.mono hby.drew.size)
                            clear hb12
                            go_wp2_with fail
                            go_roundw
                            case rel => exact ⟨p + 1, by omega, by omega, by go_num, HBY.out⟩
                            case measure => simp [intOf]; omega
                            --]]6
                          · have HBZ := Hid.mk hbz
                            obtain ⟨b', o', h, -, i2', -, -⟩ := ((HX.out.below HBW7.out).below HBZ.out).cells jj hjl
                            cases h
                            rw [HWN.out.nam] at i2'
                            have pm : ¬ ((p : Int) < (m' : Int)) := by omega
                            have pmd : decide ((p : Int) < (m' : Int)) = false := by simp; omega
                            have hle := lst_le X q
                            have hww : wrap64 ((lst X q : Int) - 1) = (lst X q : Int) - 1 := by unfold wrap64; omega
                            have hww' : IntKind.i64.wrap ((lst X q : Int) - 1) = (lst X q : Int) - 1 := by rw [IntKind.wrap_i64]; omega
                            have hwq : wrap64 ((q : Int) - 1) = (q : Int) - 1 := by unfold wrap64; omega
                            have hwq' : IntKind.i64.wrap ((q : Int) - 1) = (q : Int) - 1 := by rw [IntKind.wrap_i64]; omega
                            have y5 := cell_heap (heap_below HBZ.out HWN.out.dd) HWN.out.c5
                            have y4 := cell_heap (heap_below HBZ.out HE.out) (HE4.out.trans HSS.out.c4)
                            have ya : wr.cell? ⟨PB jj, 0, none⟩ = some (.string (name jj)) := by rw [← HST.out jj]; exact cell_heap (heap_below HBZ.out (HIT.out jj hjl)) rfl
                            have hK := HWN.out.kn.kept (HBZ.out.block _ (HWN.out.kn.elim (fun _ hh => hh.1.lt)))
                            have HK := Hid.mk hK
                            have hlen : ∀ n, (Builtin.len_ #[24] 3 #[.map (some w.heap.size)]).run Yba.prog (wr.drewN n) = .ok (.int .i64 ((q : Int) - 1)) (wr.drewN n) := fun n => by
                              have h1 := (HK.out.kept (w' := wr.drewN n) rfl).len 3
                              rw [show (((q - 1 : Nat) : Int)) = (q : Int) - 1 by omega] at h1
                              exact h1
                            have hlk : ∀ n, (Instr.lookup 24 (.map (some w.heap.size)) (.string (name jj)) false).run Yba.prog (wr.drewN n) = .ok (.bool false) (wr.drewN n) := fun n => by
                              have h1 := (HK.out.kept (w' := wr.drewN n) rfl).look (name_size jj)
                              simpa using h1
                            clear hby hbz i2 hK
                            go_wp2_with fail
                            go_quiet (fail)
                            go_wp2_with fail
                            obtain ⟨wu, rfl⟩ : ∃ x, x = wr := ⟨wr, rfl⟩
                            clear y5 ya hlen hlk i2' pm pmd hww hww' hwq hwq'
                            go_loopw [28, 331] (fun _ c wx => ∃ k : Nat, k ≤ q ∧ c = .int .i64 (k : Int) ∧ Below wu.heap.size wu wx) (fun _ c _ => q - (intOf c).toNat)
                            case atStart => exact ⟨0, by omega, rfl, below_drewN (Below.refl _ _) _⟩
                            case round =>
                              obtain ⟨k, hk, rfl, hbu⟩ := hrel
                              by_cases hkq : k < q
                              · have k0 : (0 : Int) ≤ (k : Int) := by omega
                                have k1 : (k : Int) < (q : Int) := by omega
                                have hbV : Below w7.heap.size w7 wr := HBZ.out.trans (hbu.mono HBZ.out.size)
                                have y4' := cell_heap (heap_below hbV HE.out) (HE4.out.trans HSS.out.c4)
                                have c1 := cell_heap (heap_below hbV HPP.out) (HSS.out.pr k hkq)
                                have c2 : wr.cell? ⟨PB k, 0, none⟩ = some (.string (name k)) := by rw [← HST.out k]; exact cell_heap (heap_below hbV (HIT.out k hkq)) rfl
                                by_cases hkj : k = jj
                                · have hbk : ((k : Int) == (jj : Int)) = true := by simp [hkj]
                                  have hbk2 : decide ((k : Int) = (jj : Int)) = true := by simp [hkj]
                                  have hbk3 : decide (k = jj) = true := by simp [hkj]
                                  have hbk4 : ((k : Int) != (jj : Int)) = false := by simp [hkj]
                                  have HBU := Hid.mk hbu
                                  clear hkj hbV hbu y4
                                  go_wp2_with fail
                                  go_quiet (fail)
                                  go_wp2_with fail
                                  go_roundw
                                  case rel => exact ⟨k + 1, by omega, by go_num, below_drewN HBU.out _⟩
                                  case measure => simp [intOf]; omega
                                · have hbk : ((k : Int) == (jj : Int)) = false := by simp; omega
                                  have hbk2 : decide ((k : Int) = (jj : Int)) = false := by simp; omega
                                  have hbk3 : decide (k = jj) = false := by simp [hkj]
                                  have hbk4 : ((k : Int) != (jj : Int)) = true := by simp; omega
                                  have hbk5 : ¬ (k : Int) = (jj : Int) := by omega
                                  have hT : (!decide (name k = name jj) && Go.Proofs.Ybulkdzgm.names q (name k)) = true := by
                                    rw [(names_iff q).2 ⟨k, hkq, rfl⟩, decide_eq_false (fun e => hkj (name_inj (by omega) (by omega) e))]
                                    rfl
                                  have hlk : ∀ n, (Instr.lookup 24 (.map (some w.heap.size)) (.string (name k)) false).run Yba.prog (wr.drewN n) = .ok (.bool true) (wr.drewN n) := fun n => by
                                    have h1 := ((HK.out.kept (hbu.block _ (HK.out.elim (fun _ hh => hh.1.lt)))).kept (w' := wr.drewN n) rfl).look (name_size k)
                                    rw [hT] at h1
                                    exact h1
                                  have HBU := Hid.mk hbu
                                  clear hkj hbV hbu y4 hT
                                  go_wp2_with fail
                                  go_quiet (fail)
                                  go_wp2_with fail
                                  go_roundw
                                  case rel => exact ⟨k + 1, by omega, by go_num, below_drewN HBU.out _⟩
                                  case measure => simp [intOf]; omega
                              · obtain rfl : k = q := by omega
                                have HBU := Hid.mk hbu
                                clear hkq hbu y4
                                go_wp2_with fail
                                go_ret
                                exact ⟨rfl, (HBW7.out.trans (HBZ.out.mono HBW7.out.size)).trans (HBU.out.mono (Nat.le_trans HBW7.out.size HBZ.out.size))⟩
end Go.Proofs.Ybulkdzgm
