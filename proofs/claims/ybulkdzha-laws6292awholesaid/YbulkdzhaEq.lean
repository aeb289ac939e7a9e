/-
  ENTRIES (six cells) IN A WALK, and the walk of zzs6292aeq at equal rows.
-/
import Derived.Test.YbulkdzhaInsertE
namespace Go.Proofs.Ybulkdzha
open Go Go.RowKit

/-- An entry's cells. -/
def IsEnt (c : Array Value) : Prop := ∃ (a s k m d : Int) (b : Bool), c = #[.int .i64 a, .int .i64 s, .int .u8 k, .int .u16 m, .int .u16 d, .bool b]
theorem IsEnt.size {c : Array Value} (h : IsEnt c) : c.size = 6 := by obtain ⟨_, _, _, _, _, _, rfl⟩ := h; rfl
theorem IsEnt.one {c : Array Value} (h : IsEnt c) : c.all (·.oneCell') = true := by obtain ⟨_, _, _, _, _, _, rfl⟩ := h; simp [Value.oneCell']

theorem info38s : (Yba.prog.info? 38).map (·.size) = some 6 := by kernel_rfl
def has6 (w : World) (b o : Nat) : Prop := o + 6 ≤ (blk w b).size
def row6 (w : World) (b o : Nat) : Array Value := (blk w b).extract o (o + 6)
def put6 (w : World) (b o : Nat) (c : Array Value) : World := w.setCells b o c.toList
def ld38 (v : Value) : Sem Value := Instr.loadAt 38 v
def st38 (v c : Value) : Sem Unit := Instr.storeAt 38 v c
theorem loadAt38 (v : Value) : Instr.loadAt 38 v = ld38 v := rfl
theorem storeAt38 (v c : Value) : Instr.storeAt 38 v c = st38 v c := rfl
theorem run_load38 (w : World) (b o : Nat) (h : has6 w b o) : (ld38 (.pointer (some ⟨b, o, none⟩))).run Yba.prog w = .ok (.agg (row6 w b o)) w := by
  have h' := h
  unfold has6 at h'
  obtain ⟨t, fr, hh⟩ := blk_some (w := w) (b := b) (by omega)
  have hr := World.rangeAt_of_block hh o 6
  have hl : (row6 w b o).toList.length = 6 := by simp [row6]; omega
  have := run_loadAt_mid (P := Yba.prog) w b o 38 (row6 w b o).toList _ hr Yba.underlying38 rfl (by rw [hl]; exact info38s)
  simpa [ld38] using this
theorem run_store38 (w : World) (b o : Nat) (c : Array Value) (hc : IsEnt c) (h : has6 w b o) (hs : soft w b) : (st38 (.pointer (some ⟨b, o, none⟩)) (.agg c)).run Yba.prog w = .ok () (put6 w b o c) := by
  obtain ⟨cur, t, hh⟩ := hs
  have hsz : o + 6 ≤ cur.size := by unfold has6 at h; rw [blk_of hh] at h; exact h
  refine run_storeAt_mid w b o 38 c ?_ (by rw [hc.size]; exact info38s) hc.one
  intro j hj
  rw [hc.size] at hj
  refine ⟨?_, frozen_heap hh⟩
  rw [cell_heap hh (Array.getElem?_eq_getElem (show o + j < cur.size by omega))]
  rfl
theorem has6_of {w : World} {b o : Nat} {arr : Array Value} {t : TypeId} {fr : Nat × Nat} (h : w.heap[b]? = some (.cells arr t fr)) (hk : o + 6 ≤ arr.size) : has6 w b o := by unfold has6; rw [blk_of h]; exact hk
theorem row6_of {w : World} {b o : Nat} {arr : Array Value} {t : TypeId} {fr : Nat × Nat} (h : w.heap[b]? = some (.cells arr t fr)) : row6 w b o = arr.extract o (o + 6) := by unfold row6; rw [blk_of h]
theorem put6_heap {w : World} {b o : Nat} {cur c : Array Value} {t : TypeId} (h : w.heap[b]? = some (.cells cur t (0, 0))) (hc : c.size = 6) (hl : o + 6 ≤ cur.size) :
    ∃ cur', (put6 w b o c).heap[b]? = some (.cells cur' t (0, 0)) ∧ cur'.size = cur.size ∧ ∀ j, cur'[j]? = if o ≤ j ∧ j < o + 6 then c[j - o]? else cur[j]? := by
  have := setCells_heap (b := b) c.toList o h (by simp [hc]; exact hl)
  simpa [hc, put6] using this
theorem put6_other (w : World) (b o : Nat) (c : Array Value) (k : Nat) (h : k ≠ b) : (put6 w b o c).heap[k]? = w.heap[k]? := setCells_other b _ _ _ k h
theorem put6_size (w : World) (b o : Nat) (c : Array Value) : (put6 w b o c).heap.size = w.heap.size := setCells_size b _ _ _
theorem below_put6 {B : Nat} {a w : World} (h : Below B a w) {b : Nat} (hb : B ≤ b) (o : Nat) (c : Array Value) : Below B a (put6 w b o c) := below_setCells b hb _ _ _ h
theorem has6_drew (w : World) (b o : Nat) : has6 w.drew b o ↔ has6 w b o := Iff.rfl
theorem has6_drewN (w : World) (b o n : Nat) : has6 (w.drewN n) b o ↔ has6 w b o := Iff.rfl
theorem row6_drew (w : World) (b o : Nat) : row6 w.drew b o = row6 w b o := rfl
theorem row6_drewN (w : World) (b o n : Nat) : row6 (w.drewN n) b o = row6 w b o := rfl

theorem guard38 (op : BinOp) (x y : Operand) (c d : Array Value) (w : World) : (eqGuard op 38 x y (.agg c) (.agg d)).run Yba.prog w = .ok () w := by
  have h : Yba.prog.eqGuardType Yba.prog.depth 38 = false := by kernel_rfl
  cases op <;> simp [eqGuard, h]
def eq38 (x y : Value) : Sem Bool := Op.equalIn 10000 38 x y
theorem equalIn38 (x y : Value) : Op.equalIn 10000 38 x y = eq38 x y := rfl
theorem run_eq38 (c : Array Value) (hc : IsEnt c) (w : World) : (eq38 (.agg c) (.agg c)).run Yba.prog w = .ok true w := by
  obtain ⟨a, s, k, m, d, b, rfl⟩ := hc
  unfold eq38
  rw [show (10000 : Nat) = 9997 + 1 + 1 + 1 from rfl]
  go_simp

attribute [local go_sem ↓] loadAt25 storeAt25 loadAt38 storeAt38 equalIn38
attribute [local go_sem] run_load25 run_store25 run_eq25 guard25 has20_drew has20_drewN row20_drew row20_drewN soft_drew soft_drewN run_load38 run_store38 run_eq38 guard38 has6_drew has6_drewN row6_drew row6_drewN

/-- Two rows of n identifiers and of n entries that are the same. -/
structure Twin (n : Nat) (A B C D : Array Value) : Prop where
  sa : n * 20 ≤ A.size
  sb : n * 20 ≤ B.size
  sc : n * 6 ≤ C.size
  sd : n * 6 ≤ D.size
  id : ∀ k, k < n → IsId (A.extract (k * 20) (k * 20 + 20)) ∧ B.extract (k * 20) (k * 20 + 20) = A.extract (k * 20) (k * 20 + 20)
  ent : ∀ k, k < n → IsEnt (C.extract (k * 6) (k * 6 + 6)) ∧ D.extract (k * 6) (k * 6 + 6) = C.extract (k * 6) (k * 6 + 6)

set_option maxRecDepth 100000 in
set_option maxHeartbeats 1000000 in
theorem eq_any (n g1 c1 h1 d1 g2 c2 h2 d2 : Nat) (A B C D : Array Value) (w : World) (hT : Twin n A B C D) (hn : n ≤ 65537)
    (hA : w.heap[g1]? = some (.cells A 30 (0, 0))) (hC : w.heap[h1]? = some (.cells C 38 (0, 0))) (hB : w.heap[g2]? = some (.cells B 30 (0, 0))) (hD : w.heap[h2]? = some (.cells D 38 (0, 0))) :
    Calls Yba.prog 7 #[.slice (some ⟨g1, 0, none⟩) n c1, .slice (some ⟨h1, 0, none⟩) n d1, .slice (some ⟨g2, 0, none⟩) n c2, .slice (some ⟨h2, 0, none⟩) n d2] w fun e w' => e = .returned (.bool true) ∧ Below w.heap.size w w' := by
  have HA := Hid.mk hA
  have HB := Hid.mk hB
  have HC := Hid.mk hC
  have HD := Hid.mk hD
  clear hA hB hC hD
  go_enter Yba.func7, Yba.ntmps7
  go_wp2_with fail
  go_loopw [9] (fun a wr => ∃ i : Nat, i ≤ n ∧ a = .int .i64 (i : Int) ∧ Below w.heap.size w wr) (fun a _ => (n - intOf a).toNat)
  case atStart => exact ⟨0, by omega, rfl, Below.refl _ _⟩
  case round =>
    obtain ⟨i, hi, rfl, hb⟩ := hrel
    by_cases h : i < n
    · obtain ⟨e1, e2⟩ := hT.id i h
      have s1 := hT.sa
      have s2 := hT.sb
      have i0 : (0 : Int) ≤ (i : Int) := by omega
      have i1 : (i : Int) < (n : Int) := by omega
      have q1 : has20 wr g1 (i * 20) := by unfold has20; rw [blk_of (heap_below hb HA.out)]; omega
      have q2 : has20 wr g2 (i * 20) := by unfold has20; rw [blk_of (heap_below hb HB.out)]; omega
      have r1 := row20_of (o := i * 20) (heap_below hb HA.out)
      have r2 := (row20_of (o := i * 20) (heap_below hb HB.out)).trans e2
      obtain ⟨c, hc⟩ : ∃ c, c = A.extract (i * 20) (i * 20 + 20) := ⟨_, rfl⟩
      rw [← hc] at r1 r2 e1
      have hsm := sameB_self c
      have HBL := Hid.mk hb
      clear hc e2 hb s1 s2
      go_wp2_with fail
      go_quiet (fail)
      go_wp2
      go_roundw
      case rel => exact ⟨i + 1, by omega, by go_num, below_drewN HBL.out _⟩
      case measure => simp [intOf]; omega
    · obtain rfl : i = n := by omega
      clear h
      have HBL := Hid.mk hb
      clear hb
      go_wp2_with fail
      go_loopw [10] (fun a wx => ∃ j : Nat, j ≤ i ∧ a = .int .i64 (j : Int) ∧ Below w.heap.size w wx) (fun a _ => (i - intOf a).toNat)
      case atStart => exact ⟨0, by omega, rfl, HBL.out⟩
      case round =>
        obtain ⟨j, hj, rfl, hb⟩ := hrel
        by_cases h : j < i
        · obtain ⟨e1, e2⟩ := hT.ent j h
          have s1 := hT.sc
          have s2 := hT.sd
          have i0 : (0 : Int) ≤ (j : Int) := by omega
          have i1 : (j : Int) < (i : Int) := by omega
          have q1 : has6 wr h1 (j * 6) := has6_of (heap_below hb HC.out) (by omega)
          have q2 : has6 wr h2 (j * 6) := has6_of (heap_below hb HD.out) (by omega)
          have r1 := row6_of (o := j * 6) (heap_below hb HC.out)
          have r2 := (row6_of (o := j * 6) (heap_below hb HD.out)).trans e2
          obtain ⟨c, hc⟩ : ∃ c, c = C.extract (j * 6) (j * 6 + 6) := ⟨_, rfl⟩
          rw [← hc] at r1 r2 e1
          have HBL2 := Hid.mk hb
          clear hc e2 hb s1 s2
          go_wp2_with fail
          go_quiet (fail)
          go_wp2
          go_roundw
          case rel => exact ⟨j + 1, by omega, by go_num, below_drewN HBL2.out _⟩
          case measure => simp [intOf]; omega
        · obtain rfl : j = i := by omega
          go_wp2_with fail
          go_ret
          exact ⟨rfl, hb⟩
end Go.Proofs.Ybulkdzha
