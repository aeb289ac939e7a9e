/-
  PEERS AND THE NODE IN A WALK; rows of equal parts; the keys.
-/
import Derived.Test.YbulkdzhaLearnN
namespace Go.Proofs.Ybulkdzha
open Go Go.RowKit

/-! ### Keys -/
def key (gs : List Int) : Nat → Nat
  | 0 => (gs.getD 0 0).toNat
  | i + 1 => key gs i + (gs.getD (i + 1) 0).toNat + 1
theorem key_le (gs : List Int) (h : ∀ j, 0 ≤ gs.getD j 0 ∧ gs.getD j 0 ≤ 255) : ∀ i, key gs i ≤ 256 * i + 255
  | 0 => by have := h 0; simp only [key]; omega
  | i + 1 => by have := h (i + 1); have := key_le gs h i; simp only [key]; omega
theorem key_lt (gs : List Int) : ∀ i d, key gs i < key gs (i + d + 1)
  | i, 0 => by simp only [key]; omega
  | i, d + 1 => by have := key_lt gs i d; rw [show i + (d + 1) + 1 = (i + d + 1) + 1 by omega]; simp only [key] at this ⊢; omega
theorem key_mono (gs : List Int) {i j : Nat} (h : i < j) : key gs i < key gs j := by
  have := key_lt gs i (j - i - 1)
  rwa [show i + (j - i - 1) + 1 = j by omega] at this

/-! ### Rows of equal parts -/
/-- The first k parts of the block. -/
structure Rows (sz : Nat) (arr : Array Value) (k : Nat) (R : Nat → Array Value) : Prop where
  size : k * sz ≤ arr.size
  row : ∀ i, i < k → ∀ j, j < sz → arr[i * sz + j]? = (R i)[j]?
theorem Rows.zero (sz : Nat) (arr : Array Value) (R : Nat → Array Value) : Rows sz arr 0 R := ⟨by simp, fun i hi => absurd hi (Nat.not_lt_zero _)⟩
theorem Rows.put {sz : Nat} {cur cur' : Array Value} {k : Nat} {R : Nat → Array Value} (h : Rows sz cur k R) (hk : (k + 1) * sz ≤ cur.size) (hs : cur'.size = cur.size)
    (hr : ∀ j, cur'[j]? = if k * sz ≤ j ∧ j < k * sz + sz then (R k)[j - k * sz]? else cur[j]?) : Rows sz cur' (k + 1) R := by
  refine ⟨by omega, fun i hi j hj => ?_⟩
  rw [hr]
  by_cases hik : i = k
  · subst hik
    rw [if_pos (by omega), show i * sz + j - i * sz = j by omega]
  · have h1 : (i + 1) * sz ≤ k * sz := Nat.mul_le_mul_right sz (by omega)
    rw [Nat.add_mul, Nat.one_mul] at h1
    rw [if_neg (by omega)]
    exact h.row i (by omega) j hj
theorem Rows.app {sz : Nat} {cur cur' : Array Value} {k : Nat} {R : Nat → Array Value} (h : Rows sz cur k R) (hk : (k + 1) * sz ≤ cur.size) (hs : cur'.size = cur.size)
    (hr : ∀ j, cur'[j]? = if k * sz ≤ j ∧ j < (k + 1) * sz then (R k)[j - k * sz]? else cur[j]?) : Rows sz cur' (k + 1) R :=
  h.put hk hs (fun j => by rw [hr j, Nat.add_mul, Nat.one_mul])
theorem Rows.ext {sz : Nat} {arr : Array Value} {k : Nat} {R R' : Nat → Array Value} (h : Rows sz arr k R) (e : ∀ i, i < k → R i = R' i) : Rows sz arr k R' := ⟨h.size, fun i hi j hj => by rw [← e i hi]; exact h.row i hi j hj⟩
theorem Rows.extract {sz : Nat} {arr : Array Value} {k : Nat} {R : Nat → Array Value} (h : Rows sz arr k R) {i : Nat} (hi : i < k) (hR : (R i).size = sz) : arr.extract (i * sz) (i * sz + sz) = R i := by
  have hs := h.size
  have h1 : (i + 1) * sz ≤ k * sz := Nat.mul_le_mul_right sz (by omega)
  rw [Nat.add_mul, Nat.one_mul] at h1
  apply Array.ext_getElem?
  intro j
  by_cases hj : j < sz
  · rw [Array.getElem?_extract, if_pos (by omega)]
    exact h.row i hi j hj
  · rw [Array.getElem?_eq_none (by simp; omega), Array.getElem?_eq_none (by omega)]
/-- What a row becomes with one part put in. -/
def insR (k : Nat) (R : Nat → Array Value) (c : Array Value) (i : Nat) : Array Value := if i < k then R i else if i = k then c else R (i - 1)
theorem Rows.ins {sz n k : Nat} {arr c arr2 : Array Value} {R : Nat → Array Value} (h : Rows sz arr n R) (hk : k ≤ n) (hI : Ins sz n k arr c arr2) : Rows sz arr2 (n + 1) (insR k R c) := by
  refine ⟨hI.size, fun i hi j hj => ?_⟩
  have h0 : (i + 1) * sz ≤ (n + 1) * sz := Nat.mul_le_mul_right sz (by omega)
  rw [Nat.add_mul, Nat.one_mul] at h0
  rw [hI.row _ (by omega)]
  unfold insR
  by_cases h1 : i < k
  · have h2 : (i + 1) * sz ≤ k * sz := Nat.mul_le_mul_right sz (by omega)
    rw [Nat.add_mul, Nat.one_mul] at h2
    rw [if_pos (by omega), if_pos h1]
    exact h.row i (by omega) j hj
  · have h2 : k * sz ≤ i * sz := Nat.mul_le_mul_right sz (by omega)
    by_cases h3 : i = k
    · subst h3
      rw [if_neg (by omega), if_pos (by omega), if_neg h1, if_pos rfl, show i * sz + j - i * sz = j by omega]
    · have h4 : (k + 1) * sz ≤ i * sz := Nat.mul_le_mul_right sz (by omega)
      rw [Nat.add_mul, Nat.one_mul] at h4
      obtain ⟨i', rfl⟩ : ∃ i', i = i' + 1 := ⟨i - 1, by omega⟩
      rw [if_neg (by omega), if_neg (by omega), if_neg h1, if_neg h3, ← h.row (i' + 1 - 1) (by omega) j hj]
      congr 1
      rw [Nat.add_mul, Nat.one_mul, Nat.add_sub_cancel]; omega
theorem twin_of {n : Nat} {A B C D : Array Value} {R E : Nat → Array Value} (hA : Rows 20 A n R) (hB : Rows 20 B n R) (hC : Rows 6 C n E) (hD : Rows 6 D n E) (hR : ∀ i, i < n → IsId (R i)) (hE : ∀ i, i < n → IsEnt (E i)) : Twin n A B C D :=
  ⟨hA.size, hB.size, hC.size, hD.size, fun k hk => ⟨by rw [hA.extract hk (hR k hk).1]; exact hR k hk, by rw [hA.extract hk (hR k hk).1, hB.extract hk (hR k hk).1]⟩,
    fun k hk => ⟨by rw [hC.extract hk (hE k hk).size]; exact hE k hk, by rw [hC.extract hk (hE k hk).size, hD.extract hk (hE k hk).size]⟩⟩

/-! ### Peers -/
def peer (s : Nat) (ad : Int) : Array Value := (idv s).push (.int .i64 ad)
theorem peer_size (s : Nat) (ad : Int) : (peer s ad).size = 21 := rfl
theorem peer_is (s : Nat) (ad : Int) : IsPeer (peer s ad) s ad := ⟨rfl, by simp [peer, idv], by simp [peer, idv]⟩
theorem peer_one (s : Nat) (hs : s < 4294967296) (ad : Int) : (peer s ad).all (·.oneCell') = true := by
  rw [Array.all_eq_true_iff_forall_mem]
  intro v hv
  rw [peer, Array.mem_push] at hv
  rcases hv with hv | rfl
  · exact idv_one s hs v (by simpa using hv)
  · rfl
theorem info41s : (Yba.prog.info? 41).map (·.size) = some 21 := by kernel_rfl
def bd41 (ps : Array (Nat × Value)) : Sem Value := Instr.build 41 ps
theorem build41 (ps : Array (Nat × Value)) : Instr.build 41 ps = bd41 ps := rfl
theorem run_bd41 (w : World) (s : Nat) (ad : Int) : (bd41 #[(0, .agg (idv s)), (1, .int .i64 ad)]).run Yba.prog w = .ok (.agg (peer s ad)) w :=
  run_build w 41 _ _ (by kernel_rfl)
def bd71 (ps : Array (Nat × Value)) : Sem Value := Instr.build 71 ps
theorem build71 (ps : Array (Nat × Value)) : Instr.build 71 ps = bd71 ps := rfl
theorem node_cells : ∃ N : Nat → Int → Value → Value → Bool → Array Value, (∀ s ad a1 l1 c1 a2 l2 c2 al, IsNode (N s ad (.slice a1 l1 c1) (.slice a2 l2 c2) al) s (.slice a1 l1 c1) (.slice a2 l2 c2) al ∧ (N s ad (.slice a1 l1 c1) (.slice a2 l2 c2) al).extract 0 21 = peer s ad) ∧
    ∀ (w : World) (s : Nat) (ad : Int) (a1 : Option Addr) (l1 c1 : Nat) (a2 : Option Addr) (l2 c2 : Nat) (al : Bool),
    (bd71 #[(0, .agg (peer s ad)), (4, .slice a1 l1 c1), (5, .slice a2 l2 c2), (17, .bool al)]).run Yba.prog w = .ok (.agg (N s ad (.slice a1 l1 c1) (.slice a2 l2 c2) al)) w := by
  refine ⟨fun s ad x y al => (Yba.prog.built 71 [(0, .agg (peer s ad)), (4, x), (5, y), (17, .bool al)]).getD #[], fun s ad a1 l1 c1 a2 l2 c2 al => ⟨⟨?_, by kernel_rfl, by kernel_rfl, by kernel_rfl, by kernel_rfl⟩, by kernel_rfl⟩, fun w s ad a1 l1 c1 a2 l2 c2 al => ?_⟩
  · have h : decide (20 ≤ ((Yba.prog.built 71 [(0, .agg (peer s ad)), (4, .slice a1 l1 c1), (5, .slice a2 l2 c2), (17, .bool al)]).getD #[]).size) = true := by kernel_rfl
    simpa using h
  have h : (Yba.prog.built 71 [(0, .agg (peer s ad)), (4, .slice a1 l1 c1), (5, .slice a2 l2 c2), (17, .bool al)]).isSome = true := by kernel_rfl
  obtain ⟨y, hy⟩ := Option.isSome_iff_exists.1 h
  show _ = Result.ok (Value.agg ((Yba.prog.built 71 [(0, .agg (peer s ad)), (4, .slice a1 l1 c1), (5, .slice a2 l2 c2), (17, .bool al)]).getD #[])) w
  rw [hy]
  exact run_build w 71 _ y hy

def has21 (w : World) (b o : Nat) : Prop := o + 21 ≤ (blk w b).size
def row21 (w : World) (b o : Nat) : Array Value := (blk w b).extract o (o + 21)
def ld41 (v : Value) : Sem Value := Instr.loadAt 41 v
def st41 (v c : Value) : Sem Unit := Instr.storeAt 41 v c
theorem loadAt41 (v : Value) : Instr.loadAt 41 v = ld41 v := rfl
theorem storeAt41 (v c : Value) : Instr.storeAt 41 v c = st41 v c := rfl
theorem run_load41 (w : World) (b o : Nat) (h : has21 w b o) : (ld41 (.pointer (some ⟨b, o, none⟩))).run Yba.prog w = .ok (.agg (row21 w b o)) w := by
  have h' := h
  unfold has21 at h'
  obtain ⟨t, fr, hh⟩ := blk_some (w := w) (b := b) (by omega)
  have hr := World.rangeAt_of_block hh o 21
  have hl : (row21 w b o).toList.length = 21 := by simp [row21]; omega
  have := run_loadAt_mid (P := Yba.prog) w b o 41 (row21 w b o).toList _ hr Yba.underlying41 rfl (by rw [hl]; exact info41s)
  simpa [ld41] using this
theorem run_st41_new (w : World) (z : Array Value) (s : Nat) (ad : Int) (hs : s < 4294967296) (hz : z.size = 21) : (st41 (.pointer (some ⟨w.heap.size, 0, none⟩)) (.agg (peer s ad))).run Yba.prog (w.alloc (.cells z 41)) = .ok () (w.alloc (.cells (peer s ad) 41)) :=
  run_storeAt_new (P := Yba.prog) w 41 z (peer s ad) (by rw [peer_size]; exact info41s) (by rw [hz, peer_size]) (peer_one s hs ad)
theorem run_st38_new (w : World) (z c : Array Value) (hc : IsEnt c) (hz : z.size = 6) : (st38 (.pointer (some ⟨w.heap.size, 0, none⟩)) (.agg c)).run Yba.prog (w.alloc (.cells z 38)) = .ok () (w.alloc (.cells c 38)) :=
  run_storeAt_new (P := Yba.prog) w 38 z c (by rw [hc.size]; exact info38s) (by rw [hz, hc.size]) hc.one
theorem has21_drew (w : World) (b o : Nat) : has21 w.drew b o ↔ has21 w b o := Iff.rfl
theorem has21_drewN (w : World) (b o n : Nat) : has21 (w.drewN n) b o ↔ has21 w b o := Iff.rfl
theorem row21_drew (w : World) (b o : Nat) : row21 w.drew b o = row21 w b o := rfl
theorem row21_drewN (w : World) (b o n : Nat) : row21 (w.drewN n) b o = row21 w b o := rfl
theorem guard41 (op : BinOp) (x y : Operand) (c d : Array Value) (w : World) : (eqGuard op 41 x y (.agg c) (.agg d)).run Yba.prog w = .ok () w := by
  have h : Yba.prog.eqGuardType Yba.prog.depth 41 = false := by kernel_rfl
  cases op <;> simp [eqGuard, h]
def eq41 (x y : Value) : Sem Bool := Op.equalIn 10000 41 x y
theorem equalIn41 (x y : Value) : Op.equalIn 10000 41 x y = eq41 x y := rfl
theorem run_eq30 (c d : Array Value) (hc : IsId c) (hd : IsId d) (w : World) : (Op.equalIn 9999 30 (.agg c) (.agg d)).run Yba.prog w = .ok (sameB c d) w := by
  cases hq : Yba.prog.info? 5 with
  | none => have := info5; rw [hq] at this; simp at this
  | some i =>
    rw [show (9999 : Nat) = 9998 + 1 from rfl, run_equalIn_array w 9998 c d Yba.underlying30 hq, cells5]
    exact run_items 9997 c d hc hd w _ (fun i hi => List.mem_range.1 hi)
theorem run_eq41 (s : Nat) (hs : s < 4294967296) (ad : Int) (w : World) : (eq41 (.agg (peer s ad)) (.agg (peer s ad))).run Yba.prog w = .ok true w := by
  unfold eq41
  rw [show (10000 : Nat) = 9997 + 1 + 1 + 1 from rfl]
  have h := run_eq30 (idv s) (idv s) (idv_isId s hs) (idv_isId s hs) w
  rw [sameB_self] at h
  simp only [idv] at h
  simp only [peer, idv, Array.push]
  go_simp
end Go.Proofs.Ybulkdzha
