/-
  THE WALKS of the law's small helpers: kept, before, count, slices.Equal.
-/
import Derived.Test.YbulkdzgmHPush
import Derived.LaidEqlPtr
namespace Go.Proofs.Ybulkdzgm
open Go Go.RowKit

theorem below_drewN {B : Nat} {a w : World} (h : Below B a w) (n : Nat) : Below B a (w.drewN n) := h.trans ⟨rfl, rfl, rfl, Nat.le_refl _, fun _ _ => rfl⟩

def keptB (x : Item) : Bool := x.nam || x.due == 0 || (x.ans && x.car)

set_option maxRecDepth 100000 in
set_option maxHeartbeats 1000000 in
theorem kept_any (d : Int) (nam ans car : Bool) (w : World) : Calls Yba.prog 18 #[.agg #[.int .i64 d, .bool nam, .bool ans, .bool car]] w fun e w' => e = .returned (.bool (nam || d == 0 || (ans && car))) ∧ Below w.heap.size w w' := by
  cases nam
  · cases hd : (d == 0)
    · cases ans
      · go_enter Yba.func18, Yba.ntmps18
        go_wp2_with fail
        go_ret
        exact ⟨rfl, (Below.refl _ _).alloc (Nat.le_refl _) _⟩
      · go_enter Yba.func18, Yba.ntmps18
        go_wp2_with fail
        go_ret
        exact ⟨rfl, (Below.refl _ _).alloc (Nat.le_refl _) _⟩
    · go_enter Yba.func18, Yba.ntmps18
      go_wp2_with fail
      go_ret
      exact ⟨rfl, (Below.refl _ _).alloc (Nat.le_refl _) _⟩
  · go_enter Yba.func18, Yba.ntmps18
    go_wp2_with fail
    go_ret
    exact ⟨rfl, (Below.refl _ _).alloc (Nat.le_refl _) _⟩

/-- The items as they came in. -/
structure ItsAt (w : World) (a0 : Option Addr) (n : Nat) (X : Nat → Item) : Prop where
  cells : ∀ i, i < n → ∃ b o, a0 = some ⟨b, o, none⟩ ∧ w.cell? ⟨b, o + i * 4, none⟩ = some (.int .i64 (X i).due) ∧ w.cell? ⟨b, o + i * 4 + 1, none⟩ = some (.bool (X i).nam) ∧ w.cell? ⟨b, o + i * 4 + 2, none⟩ = some (.bool (X i).ans) ∧ w.cell? ⟨b, o + i * 4 + 3, none⟩ = some (.bool (X i).car)
theorem ItsAt.below {w w' : World} {a0 : Option Addr} {n : Nat} {X : Nat → Item} (h : ItsAt w a0 n X) (hb : Below w.heap.size w w') : ItsAt w' a0 n X :=
  ⟨fun i hi => by obtain ⟨b, o, h0, h1, h2, h3, h4⟩ := h.cells i hi; exact ⟨b, o, h0, cell_below hb h1, cell_below hb h2, cell_below hb h3, cell_below hb h4⟩⟩

set_option maxRecDepth 100000 in
set_option maxHeartbeats 1000000 in
theorem before_any (a0 : Option Addr) (n cap i j : Nat) (X : Nat → Item) (w : World) (hi : i < n) (hj : j < n) (hX : ItsAt w a0 n X) : Calls Yba.prog 12 #[.slice a0 n cap, .int .i64 i, .int .i64 j] w fun e w' => e = .returned (.bool (bef X i j)) ∧ Below w.heap.size w w' := by
  obtain ⟨b, o, rfl, c1, -⟩ := hX.cells i hi
  obtain ⟨b', o', h, c2, -⟩ := hX.cells j hj
  cases h
  obtain ⟨d, hd⟩ : ∃ d, (X i).due = d := ⟨_, rfl⟩
  obtain ⟨e, he⟩ : ∃ d, (X j).due = d := ⟨_, rfl⟩
  obtain ⟨z, hz⟩ : ∃ z, bef X i j = z := ⟨_, rfl⟩
  rw [hz]
  unfold bef at hz
  rw [hd, he] at hz
  rw [hd] at c1
  rw [he] at c2
  have HZ := Hid.mk hz
  have i0 : (0 : Int) ≤ (i : Int) := by omega
  have i1 : (i : Int) < (n : Int) := by omega
  have j0 : (0 : Int) ≤ (j : Int) := by omega
  have j1 : (j : Int) < (n : Int) := by omega
  clear hX hd he hz
  go_enter Yba.func12, Yba.ntmps12
  go_wp2_with fail
  go_quiet (fail)
  cases hne : (d == e)
  · go_wp2_with fail
    go_quiet (fail)
    go_wp2_with fail
    go_ret
    refine ⟨?_, below_drewN (below_drewN (Below.refl _ _) _) _⟩
    have hz := HZ.out
    have hne' : ¬ d = e := by simpa using hne
    rw [show decide (d < e ∨ d = e ∧ i < j) = decide (d < e) by rw [decide_eq_decide]; constructor <;> intro h <;> omega] at hz
    rw [← hz]; rfl
  · go_wp2_with fail
    go_ret
    refine ⟨?_, below_drewN (Below.refl _ _) _⟩
    have hz := HZ.out
    have hne' : d = e := by simpa using hne
    rw [show decide (d < e ∨ d = e ∧ i < j) = decide (i < j) by rw [decide_eq_decide]; constructor <;> intro h <;> omega] at hz
    rw [← hz]
    simp

/-! ### Pointers to addresses compared -/
theorem info49 : (Yba.prog.info? 49).map (fun i => (i.zero, i.size, i.bytes)) = some (some (.agg #[.string ⟨#[]⟩, .int .u64 0, .int .i64 0, .pointer none, .int .i64 0, .bool false, .bool false, .int .u64 0, .bool false]), 9, 72) := by kernel_rfl
theorem run_eqp (w : World) (a b : Nat) {ca cb : Array Value} {ta tb : TypeId} (ha : w.heap[a]? = some (.cells ca ta (0, 0))) (hb : w.heap[b]? = some (.cells cb tb (0, 0))) :
    (binOp .eql 41 (.pointer (some ⟨a, 0, none⟩)) (.pointer (some ⟨b, 0, none⟩))).run Yba.prog w = .ok (.bool (decide (a = b))) w ∧ (binOp .neq 41 (.pointer (some ⟨a, 0, none⟩)) (.pointer (some ⟨b, 0, none⟩))).run Yba.prog w = .ok (.bool (!decide (a = b))) w := by
  obtain ⟨i0, hi, -, hz1, -⟩ := info_parts info49
  have hp := run_underlying (P := Yba.prog) (w := w) Yba.underlying41
  have h : ∀ d : Nat, (Op.equalIn (d + 1) 41 (.pointer (some ⟨a, 0, none⟩)) (.pointer (some ⟨b, 0, none⟩))).run Yba.prog w = .ok (decide (a = b)) w := fun d => by
    by_cases h : a = b
    · subst h
      simp [Op.equalIn, hp, sizeOf, typeInfo, hi, run_sameAddr_same]
    · have hne : (⟨a, 0, none⟩ : Addr) ≠ ⟨b, 0, none⟩ := fun e => h (by cases e; rfl)
      simp [Op.equalIn, hp, sizeOf, typeInfo, hi, hz1, run_sameAddr_other w hne ha hb, h]
  constructor
  · simp only [binOp]
    simp [Op.equal, Op.maxDepth, h 9999]
  · simp only [binOp]
    simp [Op.equal, Op.maxDepth, h 9999]

/-- A row of pointers that is read. -/
structure PRow (w : World) (v : Value) (m : Nat) (PB f : Nat → Nat) : Prop where
  len : ∃ a c, v = .slice a m c
  ptr : ∀ k, k < m → ∃ g c, v = .slice (some ⟨g, 0, none⟩) m c ∧ w.cell? ⟨g, k, none⟩ = some (.pointer (some ⟨PB (f k), 0, none⟩))
theorem PRow.of {w : World} {base m : Nat} {v : Value} {PB f : Nat → Nat} (h : w.ownsRow base 41 1 v m (ptrs PB f m)) : PRow w v m PB f := by
  rcases h.2 with ⟨rfl, rfl⟩ | ⟨g, cap, cur, rfl, h1, h2, h3, h4, h5, h6⟩
  · exact ⟨⟨_, _, rfl⟩, fun k hk => absurd hk (Nat.not_lt_zero _)⟩
  · refine ⟨⟨_, _, rfl⟩, fun k hk => ⟨g, cap, rfl, cell_heap h2 ?_⟩⟩
    have h7 := ptrs_get PB f hk
    rw [← h6, List.getElem?_take, if_pos (by omega)] at h7
    simpa using h7
theorem PRow.below {w w' : World} {v : Value} {m : Nat} {PB f : Nat → Nat} (h : PRow w v m PB f) (hb : Below w.heap.size w w') : PRow w' v m PB f :=
  ⟨h.len, fun k hk => by obtain ⟨g, c, h1, h2⟩ := h.ptr k hk; exact ⟨g, c, h1, cell_below hb h2⟩⟩

/-- How often x stands among the first m. -/
def cnt (f : Nat → Nat) (x : Nat) : Nat → Nat
  | 0 => 0
  | m + 1 => cnt f x m + if f m = x then 1 else 0
theorem cnt_le (f : Nat → Nat) (x : Nat) : ∀ m, cnt f x m ≤ m
  | 0 => Nat.le_refl _
  | m + 1 => by have := cnt_le f x m; unfold cnt; split <;> omega

set_option maxRecDepth 100000 in
set_option maxHeartbeats 1000000 in
theorem count_any (m x : Nat) (v : Value) (PB f : Nat → Nat) (w : World) (hm : m ≤ 1000) (hv : PRow w v m PB f) (hinj : ∀ k, k < m → PB (f k) = PB x → f k = x) (hb : ∀ k, k < m → ∃ c t, w.heap[PB (f k)]? = some (.cells c t (0, 0))) (hbx : ∃ c t, w.heap[PB x]? = some (.cells c t (0, 0))) :
    Calls Yba.prog 11 #[v, .pointer (some ⟨PB x, 0, none⟩)] w fun e w' => e = .returned (.int .i64 (cnt f x m)) ∧ w' = w := by
  obtain ⟨a, c, rfl⟩ := hv.len
  have HV := Hid.mk hv
  clear hv
  go_enter Yba.func11, Yba.ntmps11
  go_wp2_with fail
  go_loopw [5, 7, 10] (fun p _ i wr => ∃ k : Nat, k ≤ m ∧ i = .int .i64 (k : Int) ∧ p = .int .i64 (cnt f x k : Int) ∧ wr = w) (fun _ _ i _ => m - (intOf i).toNat)
  case atStart => exact ⟨0, by omega, rfl, rfl, rfl⟩
  case round =>
    obtain ⟨k, hk, rfl, rfl, hw⟩ := hrel
    rw [hw]
    clear hw
    by_cases hlt : k < m
    · obtain ⟨g, c', h1, h2⟩ := HV.out.ptr k hlt
      cases h1
      have k0 : (0 : Int) ≤ (k : Int) := by omega
      have k1 : (k : Int) < (m : Int) := by omega
      have hcl := cnt_le f x k
      obtain ⟨q, hq⟩ : ∃ q, cnt f x k = q := ⟨_, rfl⟩
      rw [hq] at hcl ⊢
      have HQ := Hid.mk hq
      clear hq
      obtain ⟨ca, ta, hca⟩ := hb k hlt
      obtain ⟨cx, tx, hcx⟩ := hbx
      have he := (run_eqp w (PB (f k)) (PB x) hca hcx).1
      clear hca hcx
      by_cases hfx : f k = x
      · have hpp : PB (f k) = PB x := by rw [hfx]
        have hdd : decide (PB (f k) = PB x) = true := by simp [hpp]
        rw [hdd] at he
        have HFX := Hid.mk hfx
        clear hfx hpp hdd
        go_wp2_with fail
        go_roundw
        case rel => exact ⟨k + 1, by omega, by go_num, by unfold cnt; rw [if_pos HFX.out, HQ.out]; go_num, by first | rfl | trivial⟩
        case measure => simp [intOf]; omega
      · have hpp : ¬ PB (f k) = PB x := fun e => hfx (hinj k hlt e)
        have hdd : decide (PB (f k) = PB x) = false := by simp [hpp]
        rw [hdd] at he
        clear hpp hdd
        go_wp2_with fail
        go_roundw
        case rel => exact ⟨k + 1, by omega, by go_num, by unfold cnt; rw [if_neg hfx, HQ.out]; rfl, by first | rfl | trivial⟩
        case measure => simp [intOf]; omega
    · obtain rfl : k = m := by omega
      go_wp2_with fail
      go_ret
      exact ⟨rfl, rfl⟩

set_option maxRecDepth 100000 in
set_option maxHeartbeats 1000000 in
theorem equal_any (m : Nat) (v v' : Value) (PB f : Nat → Nat) (w : World) (hm : m ≤ 1000) (hv : PRow w v m PB f) (hv' : PRow w v' m PB f) (hb : ∀ k, k < m → ∃ c t, w.heap[PB (f k)]? = some (.cells c t (0, 0))) :
    Calls Yba.prog 10 #[v, v'] w fun e w' => e = .returned (.bool true) ∧ Below w.heap.size w w' := by
  obtain ⟨a, c, rfl⟩ := hv.len
  obtain ⟨a', c', rfl⟩ := hv'.len
  have HV := Hid.mk hv
  have HV' := Hid.mk hv'
  have HB := Hid.mk hb
  clear hv hv' hb
  go_enter Yba.func10, Yba.ntmps10
  go_wp2_with fail
  go_loopw [5, 13] (fun _ i wr => ∃ k : Nat, k ≤ m ∧ i = .int .i64 (k : Int) ∧ Below w.heap.size w wr) (fun _ i _ => m - (intOf i).toNat)
  case atStart => exact ⟨0, by omega, rfl, Below.refl _ _⟩
  case round =>
    obtain ⟨k, hk, rfl, hbel⟩ := hrel
    by_cases hlt : k < m
    · obtain ⟨g, d, h1, h2⟩ := (HV.out.below hbel).ptr k hlt
      obtain ⟨g', d', h1', h2'⟩ := (HV'.out.below hbel).ptr k hlt
      cases h1
      cases h1'
      have k0 : (0 : Int) ≤ (k : Int) := by omega
      have k1 : (k : Int) < (m : Int) := by omega
      obtain ⟨ca, ta, hca⟩ := HB.out k hlt
      have he : ∀ n, (binOp .neq 41 (.pointer (some ⟨PB (f k), 0, none⟩)) (.pointer (some ⟨PB (f k), 0, none⟩))).run Yba.prog (wr.drewN n) = .ok (.bool false) (wr.drewN n) := fun n => by
        have := (run_eqp (wr.drewN n) (PB (f k)) (PB (f k)) (heap_below (below_drewN hbel n) hca) (heap_below (below_drewN hbel n) hca)).2
        simpa using this
      clear hca
      go_wp2_with fail
      go_quiet (fail)
      go_wp2_with fail
      go_roundw
      case rel => exact ⟨k + 1, by omega, by go_num, below_drewN hbel _⟩
      case measure => simp [intOf]; omega
    · obtain rfl : k = m := by omega
      go_wp2_with fail
      go_ret
      exact ⟨rfl, hbel⟩
end Go.Proofs.Ybulkdzgm
