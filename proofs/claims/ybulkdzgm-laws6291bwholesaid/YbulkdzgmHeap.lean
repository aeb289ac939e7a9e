/-
  THE WALKS of container/heap's up and down over the queue.
-/
import Derived.Test.YbulkdzgmPlain
namespace Go.Proofs.Ybulkdzgm
open Go Go.RowKit

/-- What may change: the blocks of p, and what is new. -/
structure Chg (p : Nat → Prop) (w w' : World) : Prop where
  size : w.heap.size ≤ w'.heap.size
  block : ∀ b, b < w.heap.size → ¬ p b → w'.heap[b]? = w.heap[b]?
  below : ∀ B, B ≤ w.heap.size → (∀ b, p b → B ≤ b) → Below B w w'
theorem Chg.refl (p : Nat → Prop) (w : World) : Chg p w w := ⟨Nat.le_refl _, fun _ _ _ => rfl, fun _ _ _ => Below.refl _ _⟩
theorem Chg.of_below {p : Nat → Prop} {w w' : World} (h : Below w.heap.size w w') : Chg p w w' := ⟨h.size, fun b hb _ => h.block b hb, fun _ hB _ => h.mono hB⟩
theorem Chg.trans {p : Nat → Prop} {a b c : World} (h1 : Chg p a b) (h2 : Chg p b c) : Chg p a c :=
  ⟨Nat.le_trans h1.size h2.size, fun i hi hp => (h2.block i (Nat.lt_of_lt_of_le hi h1.size) hp).trans (h1.block i hi hp), fun B hB hp => (h1.below B hB hp).trans (h2.below B (Nat.le_trans hB h1.size) hp)⟩
theorem Chg.mono {p q : Nat → Prop} {a b : World} (h : Chg p a b) (hpq : ∀ i, p i → q i) : Chg q a b := ⟨h.size, fun i hi hq => h.block i hi (fun hp => hq (hpq i hp)), fun B hB hq => h.below B hB (fun b hp => hq b (hpq b hp))⟩

/-- A queue: m addresses, the k-th of them item f k, whose block is PB (f k). -/
structure QAt (w : World) (D o g m cap : Nat) (X : Nat → Item) (PB f : Nat → Nat) : Prop where
  cell : w.cell? ⟨D, o, none⟩ = some (.slice (some ⟨g, 0, none⟩) m cap)
  row : ∃ arr, w.heap[g]? = some (.cells arr 41 (0, 0)) ∧ arr.size = cap ∧ ∀ k, k < m → arr[k]? = some (.pointer (some ⟨PB (f k), 0, none⟩))
  le : m ≤ cap
  top : cap ≤ maxLen
  item : ∀ k, k < m → w.heap[PB (f k)]? = some (.cells ((X (f k)).cells (f k)) 49 (0, 0))
  gD : D ≠ g
theorem QAt.at {w : World} {D o g m cap : Nat} {X : Nat → Item} {PB f : Nat → Nat} (h : QAt w D o g m cap X PB f) {k : Nat} (hk : k < m) : w.cell? ⟨g, k, none⟩ = some (.pointer (some ⟨PB (f k), 0, none⟩)) := by
  obtain ⟨arr, h1, _, h3⟩ := h.row
  exact cell_heap h1 (h3 k hk)
theorem QAt.chg {w w' : World} {D o g m cap : Nat} {X : Nat → Item} {PB f : Nat → Nat} (h : QAt w D o g m cap X PB f) (hb : Below w.heap.size w w') : QAt w' D o g m cap X PB f := by
  obtain ⟨arr, h1, h2, h3⟩ := h.row
  exact ⟨cell_below hb h.cell, ⟨arr, heap_below hb h1, h2, h3⟩, h.le, h.top, fun k hk => heap_below hb (h.item k hk), h.gD⟩
theorem QAt.swap {w w' : World} {D o g m cap i j : Nat} {X : Nat → Item} {PB f : Nat → Nat} (h : QAt w D o g m cap X PB f) (hi : i < m) (hj : j < m) {arr : Array Value} (hg : w.heap[g]? = some (.cells arr 41 (0, 0)))
    (hg' : w'.heap[g]? = some (.cells ((arr.setIfInBounds i (.pointer (some ⟨PB (f j), 0, none⟩))).setIfInBounds j (.pointer (some ⟨PB (f i), 0, none⟩))) 41 (0, 0))) (ho : ∀ b, b ≠ g → w'.heap[b]? = w.heap[b]?) : QAt w' D o g m cap X PB (swp f i j) := by
  obtain ⟨arr', h1, h2, h3⟩ := h.row
  have : arr' = arr := by rw [hg] at h1; simp at h1; exact h1.symm
  subst this
  have hitem : ∀ k, k < m → w'.heap[PB (f k)]? = some (.cells ((X (f k)).cells (f k)) 49 (0, 0)) := fun k hk => by
    rw [ho _ (fun e => by have h4 := h.item k hk; rw [e, hg] at h4; simp at h4)]
    exact h.item k hk
  have hle := h.le
  refine ⟨?_, ⟨_, hg', by simp; exact h2, fun k hk => ?_⟩, h.le, h.top, fun k hk => ?_, h.gD⟩
  · rw [show w'.cell? ⟨D, o, none⟩ = w.cell? ⟨D, o, none⟩ by simp [World.cell?, ho D h.gD]]
    exact h.cell
  · rw [Array.getElem?_setIfInBounds, Array.getElem?_setIfInBounds]
    unfold swp
    by_cases h4 : j = k
    · subst h4
      rw [if_pos rfl, if_pos (by simp; omega)]
      by_cases h5 : j = i
      · rw [if_pos h5, h5]
      · rw [if_neg h5, if_pos rfl]
    · rw [if_neg h4]
      by_cases h5 : i = k
      · subst h5
        rw [if_pos rfl, if_pos (by omega), if_pos rfl]
      · rw [if_neg h5, if_neg (fun e => h5 e.symm), if_neg (fun e => h4 e.symm)]
        exact h3 k hk
  · unfold swp
    split
    · exact hitem j hj
    · split
      · exact hitem i hi
      · exact hitem k hk

set_option maxRecDepth 100000 in
set_option maxHeartbeats 1000000 in
theorem up_any (D o g m cap j0 : Nat) (X : Nat → Item) (PB f0 : Nat → Nat) (w : World) (hj0 : j0 < m) (hm : m ≤ 1000) (hQ : QAt w D o g m cap X PB f0) :
    Calls Yba.prog 24 #[.iface 63 (.pointer (some ⟨D, o, none⟩)), .int .i64 j0] w fun e w' => e = .returned (.tuple #[]) ∧ ∃ f, QAt w' D o g m cap X PB f ∧ Perm m f0 f ∧ (∀ n, j0 < n → n ≤ m → UpOK X f0 n j0 → Heap X f n) ∧ (∀ k, j0 < k → f k = f0 k) ∧ Chg (· = g) w w' := by
  have HQ := Hid.mk hQ
  clear hQ
  go_enter Yba.func24, Yba.ntmps24
  go_wp2_with fail
  go_loopw [1, 4] (fun a _ wr => ∃ (j : Nat) (f : Nat → Nat), j ≤ j0 ∧ a = .int .i64 (j : Int) ∧ QAt wr D o g m cap X PB f ∧ Perm m f0 f ∧ (∀ n, j0 < n → n ≤ m → UpOK X f0 n j0 → UpOK X f n j) ∧ (∀ k, j0 < k → f k = f0 k) ∧ Chg (· = g) w wr) (fun a _ _ => (intOf a).toNat)
  case atStart => exact ⟨j0, f0, Nat.le_refl _, rfl, HQ.out, Perm.refl _ _, fun n _ _ h => h, fun _ _ => rfl, Chg.refl _ _⟩
  case round =>
    obtain ⟨j, f, hj, rfl, hq, hp, hu, hk, hc⟩ := hrel
    have H1 := Hid.mk hq
    have H2 := Hid.mk hp
    have H3 := Hid.mk hu
    have H4 := Hid.mk hk
    have H5 := Hid.mk hc
    clear hq hp hu hk hc HQ
    by_cases h0 : j = 0
    · subst h0
      go_wp2_with fail
      go_end0
      exact ⟨rfl, f, H1.out, H2.out, fun n h1 h2 h3 => (H3.out n h1 h2 h3).done (.inl rfl), H4.out, H5.out⟩
    · obtain ⟨i, hi⟩ : ∃ i, par j = i := ⟨_, rfl⟩
      have hij : i < j := by rw [← hi]; exact par_lt (by omega)
      have hdiv : ((j : Int) - 1) / 2 = (i : Int) := by unfold par at hi; omega
      have hw1 : IntKind.i64.wrap ((j : Int) - 1) = (j : Int) - 1 := by rw [IntKind.wrap_i64]; omega
      have hn0 : (0 : Int) ≤ (j : Int) - 1 := by omega
      have hb1 : ((i : Int) == (j : Int)) = false := by simp; omega
      have hmth := run_method_val wr path_less D o (some ⟨g, 0, none⟩) m cap H1.out.cell
      go_wp2_with fail
      refine (less_any g m cap j i (f j) (f i) (PB (f j)) (PB (f i)) X _ (by omega) (by omega) (H1.out.at (by omega)) (H1.out.at (by omega)) (H1.out.item j (by omega)) (H1.out.item i (by omega))).mono ?_
      rintro e w1 ⟨rfl, hb1⟩
      have H1' : Hid (QAt w1 D o g m cap X PB f) := H1.out.chg hb1
      have H5' : Hid (Chg (· = g) w w1) := H5.out.trans (Chg.of_below hb1)
      clear H1 H5 hmth hb1
      cases hbf : bef X (f j) (f i)
      · go_wp2_with fail
        go_end0
        exact ⟨rfl, f, H1'.out, H2.out, fun n h1 h2 h3 => (H3.out n h1 h2 h3).done (.inr (by rw [hi]; exact hbf)), H4.out, H5'.out⟩
      · have hmth := run_method_val w1 path_swap D o (some ⟨g, 0, none⟩) m cap H1'.out.cell
        have HBF := Hid.mk hbf
        clear hbf
        go_wp2_with fail
        obtain ⟨arr, ha1, ha2, ha3⟩ := H1'.out.row
        refine (swap_any g m cap i j (some ⟨PB (f i), 0, none⟩) (some ⟨PB (f j), 0, none⟩) arr _ (by omega) (by omega) ha1 (ha3 i (by omega)) (ha3 j (by omega))).mono ?_
        rintro e w2 ⟨rfl, hg2, hs2, ho2, hB2⟩
        have H1x : Hid (QAt w2 D o g m cap X PB (swp f i j)) := H1'.out.swap (by omega) (by omega) ha1 hg2 ho2
        have H5x : Hid (Chg (· = g) w w2) := H5'.out.trans ⟨by rw [hs2]; exact Nat.le_refl _, fun b _ hb => ho2 b hb, fun B _ hB => hB2 B (hB g rfl)⟩
        clear hg2 hs2 ho2 hB2 ha1 ha2 ha3 H1' H5' hmth
        go_wp2_with fail
        go_roundw
        case rel => exact ⟨i, swp f i j, by omega, rfl, H1x.out, H2.out.trans (Perm.swap f (by omega) (by omega)), fun n h1 h2 h3 => by
          have := (H3.out n h1 h2 h3).step (by omega) (by omega) (by rw [hi]; exact HBF.out)
          rwa [hi] at this, fun k hk => by
          unfold swp
          rw [if_neg (by omega), if_neg (by omega)]
          exact H4.out k hk, H5x.out⟩
        case measure => simp [intOf]; omega

theorem par_kids {k i : Nat} (h : par k = i) (h0 : 0 < k) : k = 2 * i + 1 ∨ k = 2 * i + 2 := by unfold par at h; omega

/-- What down leaves. -/
def Downed (D o g m cap i0 n : Nat) (X : Nat → Item) (PB f0 : Nat → Nat) (w : World) (e : Ending) (w' : World) : Prop :=
  ∃ (r : Bool) (f : Nat → Nat), e = .returned (.bool r) ∧ QAt w' D o g m cap X PB f ∧ Perm m f0 f ∧ (∀ k, n ≤ k → f k = f0 k) ∧ Chg (· = g) w w' ∧
      (r = false → f = f0 ∧ (DownOK X f0 n i0 → UpOK X f0 n i0)) ∧ (r = true → DownOK X f0 n i0 → Heap X f n)

set_option maxRecDepth 100000 in
set_option maxHeartbeats 1000000 in
theorem down_any (D o g m cap i0 n : Nat) (X : Nat → Item) (PB f0 : Nat → Nat) (w : World) (hi0 : i0 < n) (hnm : n ≤ m) (hm : m ≤ 1000) (hQ : QAt w D o g m cap X PB f0) :
    Calls Yba.prog 28 #[.iface 63 (.pointer (some ⟨D, o, none⟩)), .int .i64 i0, .int .i64 n] w fun e w' => Downed D o g m cap i0 n X PB f0 w e w' := by
  have HQ := Hid.mk hQ
  clear hQ
  go_enter Yba.func28, Yba.ntmps28
  go_wp2_with fail
  go_loopw [7, 8, 9, 10] (fun a _ _ _ wr => ∃ (i : Nat) (f : Nat → Nat), i0 ≤ i ∧ i < n ∧ a = .int .i64 (i : Int) ∧ QAt wr D o g m cap X PB f ∧ Perm m f0 f ∧ (∀ k, n ≤ k → f k = f0 k) ∧ Chg (· = g) w wr ∧ ((i = i0 ∧ f = f0) ∨ (i0 < i ∧ (DownOK X f0 n i0 → Sunk X f n i)))) (fun a _ _ _ _ => n - (intOf a).toNat)
  case atStart => exact ⟨i0, f0, Nat.le_refl _, hi0, rfl, HQ.out, Perm.refl _ _, fun _ _ => rfl, Chg.refl _ _, .inl ⟨rfl, rfl⟩⟩
  case round =>
    obtain ⟨i, f, hi, hin, rfl, hq, hp, hk, hc, hs⟩ := hrel
    have H1 := Hid.mk hq
    have H2 := Hid.mk hp
    have H3 := Hid.mk hs
    have H4 := Hid.mk hk
    have H5 := Hid.mk hc
    clear hq hp hs hk hc HQ
    have hw1 : IntKind.i64.wrap (2 * (i : Int)) = 2 * (i : Int) := by rw [IntKind.wrap_i64]; omega
    have hw2 : IntKind.i64.wrap (2 * (i : Int) + 1) = 2 * (i : Int) + 1 := by rw [IntKind.wrap_i64]; omega
    have hw3 : IntKind.i64.wrap (2 * (i : Int) + 1 + 1) = 2 * (i : Int) + 1 + 1 := by rw [IntKind.wrap_i64]; omega
    obtain ⟨r, hr1, hr2⟩ : ∃ r : Bool, decide ((i0 : Int) < (i : Int)) = r ∧ decide (i0 < i) = r := ⟨_, rfl, by rw [decide_eq_decide]; omega⟩
    have HFIN : Hid (∀ w' : World, QAt w' D o g m cap X PB f → Chg (· = g) w w' → (∀ k, 0 < k → k < n → par k = i → bef X (f k) (f i) = false) → Downed D o g m cap i0 n X PB f0 w (.returned (.bool r)) w') := fun w' hq hc hr => by
      refine ⟨r, f, rfl, hq, H2.out, H4.out, hc, fun h1 => ?_, fun h1 h2 => ?_⟩
      · rcases H3.out with ⟨rfl, rfl⟩ | ⟨h2, _⟩
        · exact ⟨rfl, fun h3 => h3.rest hr⟩
        · rw [← hr2] at h1; simp at h1; omega
      · rcases H3.out with ⟨rfl, rfl⟩ | ⟨h3, h4⟩
        · rw [← hr2] at h1; simp at h1
        · exact (h4 h2).rest hr
    by_cases hj1 : 2 * i + 1 < n
    · have hd1 : decide ((n : Int) ≤ 2 * (i : Int) + 1) = false := by simp; omega
      have hd2 : decide (2 * (i : Int) + 1 < 0) = false := by simp; omega
      obtain ⟨a, ha⟩ : ∃ a : Nat, a = 2 * i + 1 := ⟨_, rfl⟩
      have haz : 2 * (i : Int) + 1 = (a : Int) := by omega
      obtain ⟨b, hb⟩ : ∃ b : Nat, b = 2 * i + 2 := ⟨_, rfl⟩
      have hbz : (a : Int) + 1 = (b : Int) := by omega
      rw [haz] at hw2 hw3 hd1 hd2
      rw [hbz] at hw3
      have HA := Hid.mk ha
      have HB := Hid.mk hb
      have hal : a < n := by omega
      clear ha hb
      go_upto_region 6 with fail
      go_cut [33] from 12 to 44 (fun v wx => v = .bool (decide (b < n) && bef X (f b) (f a)) ∧ QAt wx D o g m cap X PB f ∧ Chg (· = g) w wx)
      case first =>
        by_cases hj2 : b < n
        · have hd3 : decide ((b : Int) < (n : Int)) = true := by simp; omega
          have hd4 : decide (b < n) = true := by simp [hj2]
          have hd5 : (b : Int) < (n : Int) := by omega
          have hmth := run_method_val wr path_less D o (some ⟨g, 0, none⟩) m cap H1.out.cell
          go_wp2_with fail
          refine (less_any g m cap b a (f b) (f a) (PB (f b)) (PB (f a)) X _ (by omega) (by omega) (H1.out.at (by omega)) (H1.out.at (by omega)) (H1.out.item b (by omega)) (H1.out.item a (by omega))).mono ?_
          rintro e w1 ⟨rfl, hb1⟩
          have H1' : Hid (QAt w1 D o g m cap X PB f) := H1.out.chg hb1
          have H5' : Hid (Chg (· = g) w w1) := H5.out.trans (Chg.of_below hb1)
          clear hmth hb1
          go_wp2_with fail
          go_meet
          exact ⟨by rw [hd4]; rfl, H1'.out, H5'.out⟩
        · have hd3 : decide ((b : Int) < (n : Int)) = false := by simp; omega
          have hd4 : decide (b < n) = false := by simp; omega
          have hd5 : ¬ (b : Int) < (n : Int) := by omega
          go_wp2_with fail
          go_meet
          exact ⟨by rw [hd4]; rfl, H1.out, H5.out⟩
      case rest =>
        obtain ⟨rfl, hq, hc⟩ := hcut
        have H1' := Hid.mk hq
        have H5' := Hid.mk hc
        clear hq hc H1 H5
        go_upto_if 33 with fail
        go_cut [9] from 12 to 44 (fun v wx => ∃ j : Nat, v = .int .i64 (j : Int) ∧ Kid X f n i j ∧ wx = wc)
        case first =>
          cases hbb : (decide (b < n) && bef X (f b) (f a))
          · go_wp2_with fail
            go_meet
            refine ⟨a, rfl, ⟨hal, by have := HA.out; unfold par; omega, by have := HA.out; omega, fun k h0 hk hp => ?_⟩, rfl⟩
            have h1 := par_kids hp h0
            have h2 := HA.out
            have h3 := HB.out
            rcases h1 with h1 | h1
            · rw [show k = a by omega, bef_false]; omega
            · obtain rfl : k = b := by omega
              simpa [hk] using hbb
          · go_wp2_with fail
            go_meet
            simp only [Bool.and_eq_true, decide_eq_true_eq] at hbb
            refine ⟨b, rfl, ⟨hbb.1, by have := HB.out; unfold par; omega, by have := HB.out; omega, fun k h0 hk hp => ?_⟩, rfl⟩
            have h1 := par_kids hp h0
            have h2 := HA.out
            have h3 := HB.out
            have h4 := hbb.2
            rw [bef_iff] at h4
            rcases h1 with h1 | h1
            · rw [show k = a by omega, bef_false]; omega
            · rw [show k = b by omega, bef_false]; omega
        case rest =>
          obtain ⟨j, rfl, hkid, hwc⟩ := hcut
          subst hwc
          have hjn := hkid.lt
          have HK := Hid.mk hkid
          clear hkid
          have hmth := run_method_val wc path_less D o (some ⟨g, 0, none⟩) m cap H1'.out.cell
          go_wp2_with fail
          have hij : i < j := by have h1 := par_lt HK.out.pos; rw [HK.out.par] at h1; exact h1
          refine (less_any g m cap j i (f j) (f i) (PB (f j)) (PB (f i)) X _ (by omega) (by omega) (H1'.out.at (by omega)) (H1'.out.at (by omega)) (H1'.out.item j (by omega)) (H1'.out.item i (by omega))).mono ?_
          rintro e w1 ⟨rfl, hb1⟩
          have H1x : Hid (QAt w1 D o g m cap X PB f) := H1'.out.chg hb1
          have H5x : Hid (Chg (· = g) w w1) := H5'.out.trans (Chg.of_below hb1)
          clear hmth hb1 H1' H5'
          cases hbf : bef X (f j) (f i)
          · go_wp2_with fail
            go_ret
            refine HFIN.out _ H1x.out H5x.out (fun k h0 hk hp => ?_)
            have h1 := HK.out.least k h0 hk hp
            rw [bef_false] at h1 hbf ⊢
            omega
          · have hmth := run_method_val w1 path_swap D o (some ⟨g, 0, none⟩) m cap H1x.out.cell
            have HBF := Hid.mk hbf
            clear hbf
            go_wp2_with fail
            obtain ⟨arr, ha1, ha2, ha3⟩ := H1x.out.row
            refine (swap_any g m cap i j (some ⟨PB (f i), 0, none⟩) (some ⟨PB (f j), 0, none⟩) arr _ (by omega) (by omega) ha1 (ha3 i (by omega)) (ha3 j (by omega))).mono ?_
            rintro e w2 ⟨rfl, hg2, hs2, ho2, hB2⟩
            have H1y : Hid (QAt w2 D o g m cap X PB (swp f i j)) := H1x.out.swap (by omega) (by omega) ha1 hg2 ho2
            have H5y : Hid (Chg (· = g) w w2) := H5x.out.trans ⟨by rw [hs2]; exact Nat.le_refl _, fun b _ hb => ho2 b hb, fun B _ hB => hB2 B (hB g rfl)⟩
            clear hg2 hs2 ho2 hB2 ha1 ha2 ha3 H1x H5x hmth
            go_wp2_with fail
            go_roundw
            case rel => exact ⟨j, swp f i j, by omega, hjn, rfl, H1y.out, H2.out.trans (Perm.swap f (by omega) (by omega)), fun k hk => by
              unfold swp
              rw [if_neg (by omega), if_neg (by omega)]
              exact H4.out k hk, H5y.out, .inr ⟨by omega, fun h1 => by
                rcases H3.out with ⟨rfl, rfl⟩ | ⟨_, h2⟩
                · exact h1.step HK.out HBF.out
                · exact (h2 h1).1.step HK.out HBF.out⟩⟩
            case measure => simp [intOf]; omega
    · have hd1 : decide ((n : Int) ≤ 2 * (i : Int) + 1) = true := by simp; omega
      go_wp2_with fail
      go_ret
      exact HFIN.out _ H1.out H5.out (fun k h0 hk hp => by have := par_kids hp h0; omega)
end Go.Proofs.Ybulkdzgm
