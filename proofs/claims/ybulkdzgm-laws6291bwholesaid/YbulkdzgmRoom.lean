/-
  THE WALK of makeRoomLocked.
-/
import Derived.Test.YbulkdzgmForget
namespace Go.Proofs.Ybulkdzgm
open Go Go.RowKit

/-- Place t of the queue is the last that may be forgotten. -/
def LastIn (X : Nat → Item) (f : Nat → Nat) (m t : Nat) : Prop := t < m ∧ keptB (X (f t)) = false ∧ ∀ i, i < m → i ≠ t → keptB (X (f i)) = false → bef X (f i) (f t) = true
def NoneIn (X : Nat → Item) (f : Nat → Nat) (m : Nat) : Prop := ∀ i, i < m → keptB (X (f i)) = true

/-- One address is gone from the queue in cell o. -/
def Gone (D o m base mb n sz t : Nat) (X : Nat → Item) (PB f : Nat → Nat) (T : ByteArray → Bool) (l : Int) (v : Value) (Dc : Array Value) (w w' : World) : Prop :=
  ∃ (m' : Nat) (F : Nat → Nat) (v' : Value) (s : ByteArray), m = m' + 1 ∧ LastIn X f m t ∧ (X (f t)).st = .string s ∧ F m' = f t ∧ Perm m f F ∧ (Heap X f m → Heap X F m') ∧
    w'.heap[D]? = some (.cells ((Dc.setIfInBounds o v').setIfInBounds 5 (.int .i64 (l - 1))) 38 (0, 0)) ∧ w'.ownsRow base 41 1 v' m' (ptrs PB F m') ∧ v'.ownBlock = v.ownBlock ∧
    Known w' mb n (fun t => !decide (t = s) && T t) (sz - 1) ∧ Chg (fun b => b = D ∨ b = mb ∨ v.ownBlock = some b) w w'

/-- What makeRoomLocked leaves. -/
def Made (D base mb n sz m6 m7 : Nat) (X : Nat → Item) (PB f6 f7 : Nat → Nat) (T : ByteArray → Bool) (l : Int) (v6 v7 : Value) (Dc : Array Value) (w : World) (e : Ending) (w' : World) : Prop :=
  (e = .returned (.bool false) ∧ NoneIn X f7 m7 ∧ NoneIn X f6 m6 ∧ Below w.heap.size w w') ∨
  (e = .returned (.bool true) ∧ ∃ t, Gone D 7 m7 base mb n sz t X PB f7 T l v7 Dc w w') ∨
  (e = .returned (.bool true) ∧ NoneIn X f7 m7 ∧ ∃ t, Gone D 6 m6 base mb n sz t X PB f6 T l v6 Dc w w')

/-- What the scan has found among the first k. -/
def Scan (X : Nat → Item) (f : Nat → Nat) (k : Nat) (r : Int) : Prop :=
  (r = -1 ∧ ∀ i, i < k → keptB (X (f i)) = true) ∨ ∃ t : Nat, r = t ∧ t < k ∧ keptB (X (f t)) = false ∧ ∀ i, i < k → i ≠ t → keptB (X (f i)) = false → bef X (f i) (f t) = true
/-- Whether place k is taken. -/
def Scan.takes (X : Nat → Item) (f : Nat → Nat) (k : Nat) (r : Int) : Bool := !keptB (X (f k)) && (decide (r < 0) || bef X (f r.toNat) (f k))
theorem Scan.yes {X : Nat → Item} {f : Nat → Nat} {k : Nat} {r : Int} (h : Scan X f k r) (ht : Scan.takes X f k r = true) : Scan X f (k + 1) k := by
  unfold Scan.takes at ht
  simp only [Bool.and_eq_true, Bool.not_eq_true', Bool.or_eq_true, decide_eq_true_eq] at ht
  refine .inr ⟨k, rfl, by omega, ht.1, fun i hi hik hkp => ?_⟩
  rcases h with ⟨h1, h2⟩ | ⟨t, rfl, h2, h3, h4⟩
  · rw [h2 i (by omega)] at hkp; cases hkp
  · have hb : bef X (f t) (f k) = true := by
      rcases ht.2 with h | h
      · omega
      · simpa using h
    by_cases hit : i = t
    · subst hit; exact hb
    · have h5 := h4 i (by omega) hit hkp
      rw [bef_iff] at h5 hb ⊢
      omega
theorem Scan.no {X : Nat → Item} {f : Nat → Nat} {k m : Nat} {r : Int} (h : Scan X f k r) (hk : k < m) (hinj : ∀ a b, a < m → b < m → f a = f b → a = b) (ht : Scan.takes X f k r = false) : Scan X f (k + 1) r := by
  unfold Scan.takes at ht
  rcases h with ⟨h1, h2⟩ | ⟨t, rfl, h2, h3, h4⟩
  · refine .inl ⟨h1, fun i hi => ?_⟩
    by_cases hik : i = k
    · subst hik
      subst h1
      simpa using ht
    · exact h2 i (by omega)
  · refine .inr ⟨t, rfl, by omega, h3, fun i hi hit hkp => ?_⟩
    by_cases hik : i = k
    · subst hik
      rw [hkp] at ht
      have hb : bef X (f t) (f i) = false := by
        simp at ht
        exact ht
      have hne : f t ≠ f i := fun e => hit (hinj t i (by omega) hk e).symm
      rw [bef_false] at hb
      rw [bef_iff]
      omega
    · exact h4 i (by omega) hit hkp

theorem less_z (z : Int) (g m cap i j a b pa pb : Nat) (X : Nat → Item) (w : World) (hz : z = (i : Int)) (hi : i < m) (hj : j < m) (h1 : w.cell? ⟨g, i, none⟩ = some (.pointer (some ⟨pa, 0, none⟩))) (h2 : w.cell? ⟨g, j, none⟩ = some (.pointer (some ⟨pb, 0, none⟩)))
    (h3 : w.heap[pa]? = some (.cells ((X a).cells a) 49 (0, 0))) (h4 : w.heap[pb]? = some (.cells ((X b).cells b) 49 (0, 0))) :
    Calls Yba.prog 20 #[.slice (some ⟨g, 0, none⟩) m cap, .int .i64 z, .int .i64 j] w fun e w' => e = .returned (.bool (bef X a b)) ∧ Below w.heap.size w w' := by
  subst hz
  exact less_any g m cap i j a b pa pb X w hi hj h1 h2 h3 h4

theorem remove_z (z : Int) (D o m base g cap i : Nat) (X : Nat → Item) (PB f : Nat → Nat) (Dc : Array Value) (w : World) (hz : z = (i : Int)) (hm : m ≤ 900) (hi : i < m + 1) (hD : w.heap[D]? = some (.cells Dc 38 (0, 0))) (hQ : QAt w D o g (m + 1) cap X PB f) (hb : base ≤ g) :
    Calls Yba.prog 22 #[.iface 63 (.pointer (some ⟨D, o, none⟩)), .int .i64 z] w fun e w' => Removed D o m base i X PB f g Dc w e w' := by
  subst hz
  exact remove_any D o m base g cap i X PB f Dc w hm hi hD hQ hb
theorem Known.ne {w : World} {b n sz i : Nat} {T : ByteArray → Bool} {c : Array Value} {t : TypeId} (h : Known w b n T sz) (hi : w.heap[i]? = some (.cells c t (0, 0))) : b ≠ i := fun e => by
  obtain ⟨_, ⟨_, _, h1, _⟩, _⟩ := h
  rw [e, hi] at h1
  cases h1
attribute [local go_sem] assert41

/-- A queue as makeRoomLocked finds it. -/
structure Queue (w : World) (D o m base : Nat) (X : Nat → Item) (PB f : Nat → Nat) (v : Value) (Dc : Array Value) : Prop where
  le : m ≤ 900
  cell : Dc[o]? = some v
  own : w.ownsRow base 41 1 v m (ptrs PB f m)
  item : ∀ k, k < m → w.heap[PB (f k)]? = some (.cells ((X (f k)).cells (f k)) 49 (0, 0))
  inj : ∀ a b, a < m → b < m → f a = f b → a = b

set_option maxRecDepth 100000 in
set_option maxHeartbeats 4000000 in
theorem room_any (D base mb n sz m6 m7 : Nat) (X : Nat → Item) (PB f6 f7 : Nat → Nat) (T : ByteArray → Bool) (l : Int) (v6 v7 : Value) (Dc : Array Value) (w : World) (hD : w.heap[D]? = some (.cells Dc 38 (0, 0))) (hK : Known w mb n T sz) (h4 : Dc[4]? = some (.map (some mb))) (h5 : Dc[5]? = some (.int .i64 l))
    (hq7 : Queue w D 7 m7 base X PB f7 v7 Dc) (hq6 : Queue w D 6 m6 base X PB f6 v6 Dc) (hst : ∀ k, (k < m7 → ∃ s : ByteArray, (X (f7 k)).st = .string s ∧ s.size ≤ maxLen ∧ T s = true) ∧ (k < m6 → ∃ s : ByteArray, (X (f6 k)).st = .string s ∧ s.size ≤ maxLen ∧ T s = true))
    (hl : (¬ (NoneIn X f7 m7 ∧ NoneIn X f6 m6)) → 1 ≤ l ∧ l ≤ 1000) :
    Calls Yba.prog 9 #[.pointer (some ⟨D, 0, none⟩)] w fun e w' => Made D base mb n sz m6 m7 X PB f6 f7 T l v6 v7 Dc w e w' := by
  go_enter Yba.func9, Yba.ntmps9
  go_wp2_with fail
  refine wp_region_pick3 [0, 1, 2, 3, 4, 5, 8] [] [6, 7] [] [] (fun _ => True) (by kernel_rfl) (by kernel_rfl) (fun _ _ d _ _ h => by cases d <;> exact h) trivial ?_
  iterate 7 (refine wpHead_cons (v := ?_) rfl (by rfl) ?_ ?_; rotate_left 1; (focus (rintro w0 -; go_simp; first | done | with_reducible rfl)); simp only [Act.put, List.setIfInBounds_toArray, List.set_cons_zero, List.set_cons_succ])
  refine wpHead_nil ?_
  refine wpHead_nil ?_
  refine wpTailL_list _ _ _ rfl ?_
  simp only [List.filterMap_cons, List.filterMap_nil, List.getElem?_cons_succ, List.getElem?_cons_zero]
  go_wp2_with fail
  have HD := Hid.mk hD
  have HK := Hid.mk hK
  have H7 := Hid.mk hq7
  have H6 := Hid.mk hq6
  have HST := Hid.mk hst
  have HL := Hid.mk hl
  have H4 := Hid.mk h4
  have H5 := Hid.mk h5
  clear hD hK hq7 hq6 hst hl h4 h5
  go_loopw [4, 5, 6, 7, 8, 17] (fun _ _ _ _ _ c wr => ∃ j : Nat, j ≤ 2 ∧ c = .int .i64 (j : Int) ∧ (1 ≤ j → NoneIn X f7 m7) ∧ (2 ≤ j → NoneIn X f6 m6) ∧ Below w.heap.size w wr ∧ wr.heap[w.heap.size]? = some (.cells #[.pointer (some ⟨D, 7, none⟩), .pointer (some ⟨D, 6, none⟩)] 63 (0, 0))) (fun _ _ _ _ _ c _ => 2 - (intOf c).toNat)
  case atStart => exact ⟨0, by omega, rfl, fun h => by omega, fun h => by omega, ((Below.refl _ _).alloc (Nat.le_refl _) _).drew, by exact heap_alloc_new _ _⟩
  case round =>
    obtain ⟨j, hj, rfl, hn7, hn6, hb, hpp⟩ := hrel
    have HN7 := Hid.mk hn7
    have HN6 := Hid.mk hn6
    have HPP := Hid.mk hpp
    clear hn7 hn6 hpp
    by_cases hj2 : j < 2
    · obtain ⟨o, v, m, f, hQ, ho6, hptr, hstr, hlm, hnext, hgone⟩ : ∃ (o : Nat) (v : Value) (m : Nat) (f : Nat → Nat), Queue w D o m base X PB f v Dc ∧ 6 ≤ o ∧ wr.cell? ⟨w.heap.size, j, none⟩ = some (.pointer (some ⟨D, o, none⟩)) ∧ (∀ k, k < m → ∃ s : ByteArray, (X (f k)).st = .string s ∧ s.size ≤ maxLen ∧ T s = true) ∧
          ((¬ NoneIn X f m) → 1 ≤ l ∧ l ≤ 1000) ∧ (NoneIn X f m → (1 ≤ j + 1 → NoneIn X f7 m7) ∧ (2 ≤ j + 1 → NoneIn X f6 m6)) ∧ (∀ w' t, Gone D o m base mb n sz t X PB f T l v Dc w w' → Made D base mb n sz m6 m7 X PB f6 f7 T l v6 v7 Dc w (.returned (.bool true)) w') := by
        match j, hj2 with
        | 0, _ => exact ⟨7, v7, m7, f7, H7.out, by omega, cell_heap HPP.out rfl, fun k hk => (HST.out k).1 hk, fun h => HL.out (fun h2 => h h2.1), fun h => ⟨fun _ => h, fun h2 => by omega⟩, fun w' t h => .inr (.inl ⟨rfl, t, h⟩)⟩
        | 1, _ => exact ⟨6, v6, m6, f6, H6.out, by omega, cell_heap HPP.out rfl, fun k hk => (HST.out k).2 hk, fun h => HL.out (fun h2 => h h2.2), fun h => ⟨fun _ => HN7.out (by omega), fun _ => h⟩, fun w' t h => .inr (.inr ⟨rfl, HN7.out (by omega), t, h⟩)⟩
      obtain ⟨av, cv, hvs⟩ : ∃ a c, v = .slice a m c := by
        rcases hQ.own.2 with ⟨h1, h2⟩ | ⟨g, cap, _, h1, _⟩
        · exact ⟨none, 0, by rw [h1, h2]⟩
        · exact ⟨_, _, h1⟩
      have hcell : w.cell? ⟨D, o, none⟩ = some (.slice av m cv) := by rw [← hvs]; exact cell_heap HD.out hQ.cell
      have c1 := cell_below hb hcell
      have hm := hQ.le
      have HQ := Hid.mk hQ
      have HSTR := Hid.mk hstr
      have HLM := Hid.mk hlm
      have HNX := Hid.mk hnext
      have HGN := Hid.mk hgone
      have HVS := Hid.mk hvs
      have HC := Hid.mk hcell
      clear hQ hstr hlm hnext hgone hvs hcell
      have j0 : (0 : Int) ≤ (j : Int) := by omega
      have j1 : (j : Int) < 2 := by omega
      go_wp2_with fail
      obtain ⟨wq, rfl⟩ : ∃ x, x = wr := ⟨wr, rfl⟩
      go_loopw [5, 6, 7, 8, 25] (fun r _ _ _ c wr => ∃ (k : Nat) (z : Int), k ≤ m ∧ c = .int .i64 (k : Int) ∧ r = .int .i64 z ∧ Scan X f k z ∧ Below w.heap.size w wr ∧ wr.heap[w.heap.size]? = some (.cells #[.pointer (some ⟨D, 7, none⟩), .pointer (some ⟨D, 6, none⟩)] 63 (0, 0))) (fun _ _ _ _ c _ => m - (intOf c).toNat)
      case atStart => exact ⟨0, -1, by omega, rfl, rfl, .inl ⟨rfl, fun i hi => absurd hi (Nat.not_lt_zero _)⟩, hb, HPP.out⟩
      case round =>
        clear hb c1 HPP hptr
        obtain ⟨k, z, hk, rfl, rfl, hsc, hb, hpp⟩ := hrel
        have HSC := Hid.mk hsc
        have HPP := Hid.mk hpp
        clear hsc hpp
        by_cases hkm : k < m
        · obtain ⟨g, cg, h1, h2⟩ := (PRow.of HQ.out.own).ptr k hkm
          rw [HVS.out] at h1
          cases h1
          have c2 := cell_below hb h2
          have hit := heap_below hb (HQ.out.item k hkm)
          obtain ⟨x, hx⟩ : ∃ x, f k = x := ⟨_, rfl⟩
          rw [hx] at c2 hit
          obtain ⟨d, hd⟩ : ∃ d, (X x).due = d := ⟨_, rfl⟩
          obtain ⟨na, hna⟩ : ∃ d, (X x).nam = d := ⟨_, rfl⟩
          obtain ⟨an, han⟩ : ∃ d, (X x).ans = d := ⟨_, rfl⟩
          obtain ⟨ca, hca⟩ : ∃ d, (X x).car = d := ⟨_, rfl⟩
          have p1 : wr.cell? ⟨PB x, 1, none⟩ = some (.int .u64 (d % 1000000000)) := by rw [← hd]; exact cell_heap hit rfl
          have p2 : wr.cell? ⟨PB x, 2, none⟩ = some (.int .i64 (d / 1000000000)) := by rw [← hd]; exact cell_heap hit rfl
          have p3 : wr.cell? ⟨PB x, 3, none⟩ = some (.pointer none) := cell_heap hit rfl
          have p5 : wr.cell? ⟨PB x, 5, none⟩ = some (.bool an) := by rw [← han]; exact cell_heap hit rfl
          have p6 : wr.cell? ⟨PB x, 6, none⟩ = some (.bool ca) := by rw [← hca]; exact cell_heap hit rfl
          have p8 : wr.cell? ⟨PB x, 8, none⟩ = some (.bool na) := by rw [← hna]; exact cell_heap hit rfl
          have k0 : (0 : Int) ≤ (k : Int) := by omega
          have k1 : (k : Int) < (m : Int) := by omega
          have HKP : Hid (keptB (X (f k)) = (na || d == 0 || (an && ca))) := by show _ = _; unfold keptB; rw [hx, hna, hd, han, hca]
          clear hit h2 hd hna han hca
          go_upto_region 8 with fail
          go_cut [8] from 26 to 68 (fun v wx => v = .bool (keptB (X (f k))) ∧ Below w.heap.size w wx ∧ wx.heap[w.heap.size]? = some (.cells #[.pointer (some ⟨D, 7, none⟩), .pointer (some ⟨D, 6, none⟩)] 63 (0, 0)))
          case first =>
            cases na
            · go_wp2_with fail
              refine (isZero_any d _).mono ?_
              rintro e w1 ⟨rfl, hb1⟩
              have HB1 : Hid (Below w.heap.size w w1) := hb.trans (hb1.mono hb.size)
              have HP1 : Hid (w1.heap[w.heap.size]? = some (.cells #[.pointer (some ⟨D, 7, none⟩), .pointer (some ⟨D, 6, none⟩)] 63 (0, 0))) := heap_below hb1 HPP.out
              have p5' := cell_below hb1 p5
              have p6' := cell_below hb1 p6
              clear hb1
              cases hd0 : (d == 0)
              · cases an
                · go_wp2_with fail
                  go_meet
                  refine ⟨?_, HB1.out, HP1.out⟩
                  rw [HKP.out, hd0]; rfl
                · go_wp2_with fail
                  go_meet
                  refine ⟨?_, HB1.out, HP1.out⟩
                  rw [HKP.out, hd0]; rfl
              · go_wp2_with fail
                go_meet
                refine ⟨?_, HB1.out, HP1.out⟩
                rw [HKP.out, hd0]; rfl
            · go_wp2_with fail
              go_meet
              refine ⟨?_, hb, HPP.out⟩
              rw [HKP.out]; rfl
          case rest =>
            obtain ⟨rfl, hb2, hp2⟩ := hcut
            clear hb c2 p1 p2 p3 p5 p6 p8 HKP HPP
            have HP2 := Hid.mk hp2
            clear hp2
            obtain ⟨kp, hkp⟩ : ∃ y, keptB (X (f k)) = y := ⟨_, rfl⟩
            rw [hkp]
            have c1 := cell_below hb2 HC.out
            go_upto_region 9 with fail
            go_cut [66] from 26 to 68 (fun v wx => v = .bool (Scan.takes X f k z) ∧ Below w.heap.size w wx ∧ wx.heap[w.heap.size]? = some (.cells #[.pointer (some ⟨D, 7, none⟩), .pointer (some ⟨D, 6, none⟩)] 63 (0, 0)))
            case first =>
              have HT : Hid (Scan.takes X f k z = (!kp && (decide (z < 0) || bef X (f z.toNat) (f k)))) := by show _ = _; unfold Scan.takes; rw [hkp]
              cases kp
              · rcases HSC.out with ⟨hz, _⟩ | ⟨t, hz, ht, _⟩
                · have hzd : decide (z < 0) = true := by rw [hz]; rfl
                  have hzn : z < 0 := by omega
                  clear hz
                  go_wp2_with fail
                  go_meet
                  exact ⟨by rw [HT.out, hzd]; rfl, hb2, HP2.out⟩
                · have hzd : decide (z < 0) = false := by rw [hz]; simp
                  have hzt : z.toNat = t := by omega
                  have HZ := Hid.mk hz
                  clear hz
                  go_wp2_with fail
                  have hat : ∀ i, i < m → w.cell? ⟨g, i, none⟩ = some (.pointer (some ⟨PB (f i), 0, none⟩)) := fun i hi => by
                    obtain ⟨g1, cg1, e1, e2⟩ := (PRow.of HQ.out.own).ptr i hi
                    rw [HVS.out] at e1
                    cases e1
                    exact e2
                  have e2 := hat t (by omega)
                  have e3 := hat k hkm
                  refine (less_z z g m _ t k (f t) (f k) (PB (f t)) (PB (f k)) X _ HZ.out (by omega) hkm (cell_below hb2 e2) (cell_below hb2 e3) (heap_below hb2 (HQ.out.item t (by omega))) (heap_below hb2 (HQ.out.item k hkm))).mono ?_
                  rintro e w1 ⟨rfl, hb1⟩
                  have HB1 : Hid (Below w.heap.size w w1) := hb2.trans (hb1.mono hb2.size)
                  have HP1 : Hid (w1.heap[w.heap.size]? = some (.cells #[.pointer (some ⟨D, 7, none⟩), .pointer (some ⟨D, 6, none⟩)] 63 (0, 0))) := heap_below hb1 HP2.out
                  clear hb1
                  go_wp2_with fail
                  go_meet
                  refine ⟨?_, HB1.out, HP1.out⟩
                  have h3 := HT.out
                  rw [hzt] at h3
                  rw [h3, hzd, hx]; rfl
              · go_wp2_with fail
                go_meet
                exact ⟨by rw [HT.out]; rfl, hb2, HP2.out⟩
            case rest =>
              clear HP2 hb2 c1
              obtain ⟨rfl, hb3, hp3⟩ := hcut
              have HP3 := Hid.mk hp3
              clear hp3
              cases htk : Scan.takes X f k z
              · go_wp2_with fail
                go_roundw
                case rel => exact ⟨k + 1, z, by omega, by go_num, rfl, HSC.out.no hkm HQ.out.inj htk, hb3, HP3.out⟩
                case measure => simp [intOf]; omega
              · go_wp2_with fail
                go_roundw
                case rel => exact ⟨k + 1, k, by omega, by go_num, rfl, HSC.out.yes htk, hb3, HP3.out⟩
                case measure => simp [intOf]; omega
        · obtain rfl : k = m := by omega
          rcases HSC.out with ⟨hz, hall⟩ | ⟨t, hz, ht, hkt, hlast⟩
          · have hzd : decide ((0 : Int) ≤ z) = false := by rw [hz]; rfl
            have hzn : ¬ (0 : Int) ≤ z := by omega
            have HALL := Hid.mk hall
            clear hz hall
            go_wp2_with fail
            go_roundw
            case rel => exact ⟨j + 1, by omega, by go_num, (HNX.out HALL.out).1, (HNX.out HALL.out).2, hb, HPP.out⟩
            case measure => simp [intOf]; omega
          · obtain ⟨m', rfl⟩ : ∃ m', k = m' + 1 := ⟨k - 1, by omega⟩
            have hzd : decide ((0 : Int) ≤ z) = true := by rw [hz]; simp
            have hzp : (0 : Int) ≤ z := by omega
            have HLAST : Hid (LastIn X f (m' + 1) t) := ⟨ht, hkt, hlast⟩
            have hDr := heap_below hb HD.out
            obtain ⟨g, cap, hvg, hbg, hq⟩ := qat_of (X := X) (own_below HQ.out.own hb) (by omega) (cell_heap hDr HQ.out.cell) hDr (fun i hi => heap_below hb (HQ.out.item i hi))
            have HQA := Hid.mk hq
            have HDR := Hid.mk hDr
            have HVG := Hid.mk hvg
            have HZ := Hid.mk hz
            clear hq hDr hvg hz hkt hlast
            go_wp2_with fail
            refine (remove_z z D o m' base g cap t X PB f Dc _ HZ.out (by omega) ht HDR.out HQA.out hbg).mono ?_
            rintro e w1 ⟨F, cap', rfl, hF, hP, hH, hD1, hO1, hC1⟩
            obtain ⟨sn, hsn, hss, hTs⟩ := HSTR.out t (by omega)
            have hitw := HQ.out.item t ht
            have hitr := heap_below hb hitw
            have hgne : g ≠ PB (f t) := fun e => by
              obtain ⟨_, h1, _⟩ := HQA.out.row
              rw [e, hitr] at h1; simp at h1
            have hDne : D ≠ PB (f t) := fun e => by rw [← e, HD.out] at hitw; simp at hitw
            have hit1 : w1.heap[PB (f t)]? = some (.cells ((X (f t)).cells (f t)) 49 (0, 0)) := (hC1.block _ (lt_of_heap hitr) (fun h => by rcases h with h | h; exact hDne h.symm; exact hgne h.symm)).trans hitr
            have hKr := HK.out.kept (w' := wr) (hb.block mb (HK.out.elim (fun _ h => h.1.lt)))
            have hmD : mb ≠ D := HK.out.ne HD.out
            have hmg : mb ≠ g := by
              obtain ⟨_, h1, _⟩ := HQA.out.row
              exact hKr.ne h1
            have hK1 : Known w1 mb n T sz := hKr.kept (hC1.block mb (hKr.elim (fun _ h => h.1.lt)) (fun h => by rcases h with h | h; exact hmD h; exact hmg h))
            have hnf : (X (f t)).nam = false := by
              have h1 := HLAST.out.2.1
              unfold keptB at h1
              cases hnm : (X (f t)).nam
              · rfl
              · rw [hnm] at h1; simp at h1
            have hlb := HLM.out (fun h => by have := h t ht; rw [HLAST.out.2.1] at this; cases this)
            have h4' : (Dc.setIfInBounds o (.slice (some ⟨g, 0, none⟩) m' cap'))[4]? = some (.map (some mb)) := by rw [Array.getElem?_setIfInBounds_ne (by omega)]; exact H4.out
            have h5' : (Dc.setIfInBounds o (.slice (some ⟨g, 0, none⟩) m' cap'))[5]? = some (.int .i64 l) := by rw [Array.getElem?_setIfInBounds_ne (by omega)]; exact H5.out
            have HFG := Hid.mk (forget_any D mb n sz (PB (f t)) T sn l _ _ w1 hD1 h4' h5' hlb.1 hlb.2 hK1 hss hTs hit1 (by rw [← hsn]; rfl) (by rw [← hnf]; rfl))
            have HGO : Hid (∀ w2, Forgot D mb n sz T sn l (Dc.setIfInBounds o (.slice (some ⟨g, 0, none⟩) m' cap')) w1 w2 → Made D base mb n sz m6 m7 X PB f6 f7 T l v6 v7 Dc w (.returned (.bool true)) w2) := fun w2 h => by
              obtain ⟨h1, h2, h3⟩ := h
              have hvo : v.ownBlock = some g := by rw [HVG.out]; rfl
              refine HGN.out w2 t ⟨m', F, .slice (some ⟨g, 0, none⟩) m' cap', sn, rfl, HLAST.out, hsn, hF, hP, hH, h1, ?_, by rw [hvo]; rfl, h2, ?_⟩
              · refine own_heap hO1 (fun k hk => h3.block k (hO1.lt k hk).2 (fun h => ?_))
                have hk' : g = k := by simpa [Value.ownBlock] using hk
                rcases h with h | h
                · exact own_ne hO1 hD1 (by decide) (by rw [← h]; exact hk)
                · exact hmg (by rw [hk', h])
              · refine ((Chg.of_below (p := fun b => b = D ∨ b = mb ∨ v.ownBlock = some b) ?_).trans (hC1.mono (fun b hb => by
                  rcases hb with h | h
                  · exact .inl h
                  · exact .inr (.inr (by rw [hvo, h]))))).trans (h3.mono (fun b hb => by
                  rcases hb with h | h
                  · exact .inl h
                  · exact .inr (.inl h)))
                exact hb
            clear hF hP hH hD1 hO1 hC1 hitw hitr hit1 hKr hK1 hnf hlb h4' h5' hsn hss hTs
            go_wp2_with fail
            refine HFG.out.mono ?_
            rintro e w2 ⟨rfl, hfg⟩
            have HMD := Hid.mk (HGO.out w2 hfg)
            clear hfg
            go_wp2_with fail
            go_ret
            exact HMD.out
    · obtain rfl : j = 2 := by omega
      go_wp2_with fail
      go_ret
      exact .inl ⟨rfl, HN7.out (by omega), HN6.out (by omega), hb⟩
end Go.Proofs.Ybulkdzgm
