/-
  THE WALKS of encoding/hex.EncodeToString, ID.String and the law's own zzs6292bhex: one text.
-/
import Derived.Test.YbulkdzhaFmtSearch
import Derived.Laws.BytesArg
import Derived.Deep.AppendLies
namespace Go.Proofs.YbulkdzhaFmt
open Go Go.RowKit
attribute [local go_sem ↓] loadAt25 storeAt25
attribute [local go_sem] run_load25 run_store25 run_eq25 guard25 has20_drew has20_drewN row20_drew row20_drewN soft_drew soft_drewN has20_alloc row20_alloc has20_new row20_new soft_alloc soft_new put20_new put20_drew

/-- The digit of a number below 16. -/
def dg (n : Int) : Int := (({ data := #[48, 49, 50, 51, 52, 53, 54, 55, 56, 57, 97, 98, 99, 100, 101, 102] } : ByteArray).data[n.toNat]?.getD 0).toNat
theorem dg_at (n : Nat) (h : n < ({ data := #[48, 49, 50, 51, 52, 53, 54, 55, 56, 57, 97, 98, 99, 100, 101, 102] } : ByteArray).size) (m : Int) (hm : m.toNat = n) :
    ((({ data := #[48, 49, 50, 51, 52, 53, 54, 55, 56, 57, 97, 98, 99, 100, 101, 102] } : ByteArray)[n]'h).toNat : Int) = dg m := by
  subst hm
  unfold dg
  rw [Array.getElem?_eq_getElem (by exact h)]
  rfl
/-- Byte i of an identifier. -/
def byteOf (c : Array Value) (i : Nat) : Int := intOf (c.getD i undef)
/-- The numbers of the forty digits. -/
def hexNums (c : Array Value) : List Int := (List.range 40).map fun j => if j % 2 = 0 then dg (byteOf c (j / 2) / 16) else dg (byteOf c (j / 2) % 16)
theorem hexNums_length (c : Array Value) : (hexNums c).length = 40 := by simp [hexNums]
/-- The first k bytes' digits lie there. -/
def HexRow (y c : Array Value) (k : Nat) : Prop := ∀ i, i < k → y[2 * i]? = some (.int .u8 (dg (byteOf c i / 16))) ∧ y[2 * i + 1]? = some (.int .u8 (dg (byteOf c i % 16)))

theorem hex_at {y c : Array Value} (h : HexRow y c 20) : ∀ j, j < 40 → y[j]? = some (.int .u8 ((hexNums c).getD j 0)) := by
  intro j hj
  have h1 := h (j / 2) (by omega)
  have e : (hexNums c).getD j 0 = if j % 2 = 0 then dg (byteOf c (j / 2) / 16) else dg (byteOf c (j / 2) % 16) := by
    simp [hexNums, hj]
  rw [e]
  by_cases hp : j % 2 = 0
  · rw [if_pos hp]
    have : 2 * (j / 2) = j := by omega
    rw [this] at h1; exact h1.1
  · rw [if_neg hp]
    have : 2 * (j / 2) + 1 = j := by omega
    rw [this] at h1; exact h1.2

theorem hex_put {y c : Array Value} {k : Nat} (hy : y.size = 40) (hk : k < 20) (h : HexRow y c k) (a b : Int) (ha : a = dg (byteOf c k / 16)) (hb : b = dg (byteOf c k % 16)) :
    HexRow ((y.setIfInBounds (2 * k) (.int .u8 a)).setIfInBounds (2 * k + 1) (.int .u8 b)) c (k + 1) := by
  subst ha hb
  intro i hi
  by_cases hik : i = k
  · subst hik
    constructor
    · rw [Array.getElem?_setIfInBounds_ne (by omega), Array.getElem?_setIfInBounds_self_of_lt (by omega)]
    · rw [Array.getElem?_setIfInBounds_self_of_lt (by simp; omega)]
  · obtain ⟨h1, h2⟩ := h i (by omega)
    constructor
    · rw [Array.getElem?_setIfInBounds_ne (by omega), Array.getElem?_setIfInBounds_ne (by omega)]; exact h1
    · rw [Array.getElem?_setIfInBounds_ne (by omega), Array.getElem?_setIfInBounds_ne (by omega)]; exact h2

set_option maxHeartbeats 1000000 in
theorem encode_any (g b : Nat) (c z : Array Value) (hc : IsId c) (w : World) (hgb : g ≠ b) (hg : w.heap[g]? = some (.cells c 25 (0, 0))) (hb : w.heap[b]? = some (.cells z 5 (0, 0))) (hz : z.size = 40) :
    Calls Ybaf.prog 15 #[.slice (some ⟨b, 0, none⟩) 40 40, .slice (some ⟨g, 0, none⟩) 20 20] w fun e w' => (∃ r, e = .returned (.int .i64 r)) ∧ (∃ y, w'.heap[b]? = some (.cells y 5 (0, 0)) ∧ HexRow y c 20) ∧ Below b w w' := by
  go_enter Ybaf.func15, Ybaf.ntmps15
  go_wp2
  go_loopw [5, 10] (fun j i wr => ∃ (k : Nat) (y : Array Value), k ≤ 20 ∧ i = .int .i64 (k : Int) ∧ j = .int .i64 ((2 * k : Nat) : Int) ∧ y.size = 40 ∧ HexRow y c k ∧ wr.heap[b]? = some (.cells y 5 (0, 0)) ∧ wr.heap[g]? = some (.cells c 25 (0, 0)) ∧ Below b w wr) (fun _ i _ => 20 - (intOf i).toNat)
  case atStart => exact ⟨0, z, by omega, rfl, rfl, hz, fun i hi => absurd hi (Nat.not_lt_zero _), hb, hg, Below.refl _ _⟩
  case round =>
    obtain ⟨k, y, hk, rfl, rfl, hy, hrow, hbr, hgr, hbel⟩ := hrel
    by_cases hlt : k < 20
    · obtain ⟨x, hx0, hx1, hx⟩ := hc.at hlt
      have hbx : byteOf c k = x := by simp [byteOf, hx, intOf]
      have e0 := cell_heap hgr hx
      have d0 := cell_heap (o := 2 * k) hbr (Array.getElem?_eq_getElem (by omega))
      have d1 := cell_heap (o := 2 * k + 1) hbr (Array.getElem?_eq_getElem (by omega))
      have f0 := frozen_heap (o := 2 * k) hbr
      have f1 := frozen_heap (o := 2 * k + 1) hbr
      have k0 : (0 : Int) ≤ (k : Int) := by omega
      have k1 : (k : Int) < 20 := by omega
      have x0 : 0 ≤ x / 16 := by omega
      have x1 : x / 16 < 16 := by omega
      have x2 : 0 ≤ x % 16 := by omega
      have x3 : x % 16 < 16 := by omega
      have HBR := Hid.mk hbr
      have HGR := Hid.mk hgr
      have HBX := Hid.mk hbx
      clear hg hb hgr hbr hx hbx
      go_wp2
      go_roundw
      case rel =>
        refine ⟨k + 1, _, by omega, by go_num, by go_num, ?_, hex_put hy hlt hrow _ _ ?_ ?_, heap_setCell_same (heap_setCell_same HBR.out _) _, ?_, (hbel.setCell (Nat.le_refl _) _).setCell (Nat.le_refl _) _⟩
        · simp [hy]
        · rw [HBX.out]; exact dg_at _ _ _ rfl
        · rw [HBX.out]; exact dg_at _ _ _ rfl
        · rw [Below.heap_setCell _ _ _ _ hgb, Below.heap_setCell _ _ _ _ hgb]; exact HGR.out
      case measure => simp [intOf]; omega
    · obtain rfl : k = 20 := by omega
      go_wp2
      go_ret
      exact ⟨⟨_, rfl⟩, ⟨y, hbr, hrow⟩, hbel⟩

theorem info5' : (Ybaf.prog.info? 5).map (fun i => (i.zero, i.size, i.bytes)) = some (some (.int .u8 0), 1, 1) := by kernel_rfl

set_option maxHeartbeats 1000000 in
theorem encodeTo_any (g : Nat) (c : Array Value) (hc : IsId c) (w : World) (hg : w.heap[g]? = some (.cells c 25 (0, 0))) :
    Calls Ybaf.prog 11 #[.slice (some ⟨g, 0, none⟩) 20 20] w fun e w' => e = .returned (.string (strOfNums (hexNums c))) ∧ Below w.heap.size w w' := by
  obtain ⟨i0, hi, hz0, hz1, hz2⟩ := info_parts info5'
  have hgl := lt_of_heap hg
  go_enter Ybaf.func11, Ybaf.ntmps11
  go_wp2_with (first | (go_at_call 14; go_in) | (at_make; refine wpList_make_block _ rfl _ _ 58 rfl 5 i0 _ 1 Ybaf.underlying58 hi hz0 hz1 40 40 rfl rfl (Nat.le_refl _) (by rw [hz2]; omega) (by unfold maxLen; omega) ?_; intro w1 hA1 hb1 hs1))
  refine (encode_any g w.heap.size c _ hc _ (by omega) (heap_below hb1 hg) hA1 (by exact size_madeCells _ _)).mono ?_
  rintro e w2 ⟨⟨r, rfl⟩, ⟨y, hy, hrow⟩, hb2⟩
  have hconv := run_convert_bytes_arg (P := Ybaf.prog) w2 58 5 Ybaf.underlying58 Ybaf.underlying5 w.heap.size 0 40 40 (hexNums c) (hexNums_length c) (fun i hi => by rw [Nat.zero_add]; exact cell_heap hy (hex_at hrow i hi)) 9 Ybaf.underlying9
  have hbel := hb1.trans hb2
  clear hA1 hb1 hs1 hy hrow hb2 hg
  go_wp2
  go_ret
  exact ⟨rfl, hbel⟩

set_option maxHeartbeats 1000000 in
theorem string_any (c : Array Value) (hc : IsId c) (w : World) :
    Calls Ybaf.prog 9 #[.agg c] w fun e w' => e = .returned (.string (strOfNums (hexNums c))) ∧ Below w.heap.size w w' := by
  go_enter Ybaf.func9, Ybaf.ntmps9
  go_wp2_with fail
  refine (encodeTo_any w.heap.size c hc _ (heap_alloc_new _ _)).mono ?_
  rintro e w1 ⟨rfl, hb⟩
  go_wp2
  go_ret
  exact ⟨rfl, ((Below.refl _ _).alloc (Nat.le_refl _) _).trans (hb.mono (by simp))⟩

set_option maxRecDepth 100000 in
set_option maxHeartbeats 1000000 in
theorem hex_any (c : Array Value) (hc : IsId c) (w : World) :
    Calls Ybaf.prog 6 #[.agg c] w fun e w' => e = .returned (.string (strOfNums (hexNums c))) ∧ Below w.heap.size w w' := by
  obtain ⟨i0, hi, hz0, hz1, hz2⟩ := info_parts info5'
  go_enter Ybaf.func6, Ybaf.ntmps6
  go_wp2_with (at_make; refine wpList_make_block _ rfl _ _ 58 rfl 5 i0 _ 1 Ybaf.underlying58 hi hz0 hz1 0 40 rfl rfl (by omega) (by rw [hz2]; omega) (by unfold maxLen; omega) ?_; intro w1 hA1 hb1 hs1)
  have HA1 := Hid.mk hA1
  have HC1 : Hid (w1.heap[w.heap.size]? = some (.cells c 25 (0, 0))) := heap_below hb1 (heap_alloc_new _ _)
  have hbel1 : Below w.heap.size w w1 := ((Below.refl _ _).alloc (Nat.le_refl _) _).trans (hb1.mono (by simp))
  have hs1' : w1.heap.size = w.heap.size + 1 + 1 := by simpa using hs1
  clear hA1 hb1 hs1
  go_loopw [3, 4] (fun v i wr => ∃ (k : Nat) (y : Array Value), k ≤ 20 ∧ i = .int .i64 (k : Int) ∧ v = .slice (some ⟨w.heap.size + 1, 0, none⟩) (2 * k) 40 ∧ y.size = 40 ∧ HexRow y c k ∧ wr.heap[w.heap.size + 1]? = some (.cells y 5 (0, 0)) ∧
      wr.heap[w.heap.size]? = some (.cells c 25 (0, 0)) ∧ w.heap.size + 1 < wr.heap.size ∧ Below w.heap.size w wr) (fun _ i _ => 20 - (intOf i).toNat)
  case atStart => exact ⟨0, madeCells (Value.int .u8 0).cells (40 * 1), by omega, rfl, rfl, by exact size_madeCells _ _, fun i hi => absurd hi (Nat.not_lt_zero _), by simpa using HA1.out, HC1.out, by omega, hbel1⟩
  case round =>
    clear HA1 HC1 hbel1 hs1'
    obtain ⟨k, y, hk, rfl, rfl, hy, hrow, hbr, hgr, hsz, hbel⟩ := hrel
    by_cases hlt : k < 20
    · obtain ⟨x, hx0, hx1, hx⟩ := hc.at hlt
      have hbx : byteOf c k = x := by simp [byteOf, hx, intOf]
      have e0 := cell_heap hgr hx
      have k0 : (0 : Int) ≤ (k : Int) := by omega
      have k1 : (k : Int) < 20 := by omega
      have x0 : 0 ≤ x / 16 := by omega
      have x1 : x / 16 < 16 := by omega
      have x2 : 0 ≤ x % 16 := by omega
      have x3 : x % 16 < 16 := by omega
      have x4 : bits .and .u8 x 15 = x % 16 := u8_and15 x hx0 (by omega)
      have HBR := Hid.mk hbr
      have HGR := Hid.mk hgr
      have HBX := Hid.mk hbx
      have HX := Hid.mk hx
      clear hgr hbr hx hbx
      go_wp2
      refine wp_region_pick [0, 1, 2, 3, 4, 5, 6, 7, 8, 9, 10] [11, 12, 13] [0, 1, 2, 3, 4, 5, 6, 7, 8, 9, 10, 11] (fun w' => w'.cell? ⟨w.heap.size, k, none⟩ = some (.int .u8 x)) (by kernel_rfl) (by kernel_rfl) (fun _ _ d _ _ h => by cases d <;> exact h) e0 ?_
      iterate 11 (refine wpHead_cons (v := ?_) rfl (by rfl) ?_ ?_; rotate_left 1; (focus (intro w0 hS0; go_simp; first | done | with_reducible rfl)); simp only [Act.put, List.setIfInBounds_toArray, List.set_cons_zero, List.set_cons_succ])
      refine wpHead_nil ?_
      refine wpTail_keep rfl (by rfl) (fun K hK => ?_)
      go_simp
      refine hK.out _ _ (by exact cell_heap (heap_old HGR.out _) HX.out) ?_
      clear hK K
      refine wpTail_list _ _ _ rfl ?_
      simp only [List.filterMap_cons, List.filterMap_nil, List.getElem?_cons_succ, List.getElem?_cons_zero]
      refine wpList_append_block _ rfl _ _ 58 rfl 5 5 i0 1 Ybaf.underlying58 hi hz1 (w.heap.size + 1) (2 * k) 40 y rfl (by exact heap_old HBR.out _) wr.heap.size 2 2 #[.int .u8 _, .int .u8 _] rfl (by exact heap_alloc_new _ _) rfl (by simp [Value.oneCell']) (by omega) (by omega) ?_
      intro w2 y2 hb2 hy2 hr2 hk2 hs2 hB2
      go_wp2
      go_roundw
      case rel =>
        refine ⟨k + 1, y2, by omega, by go_num, by congr 1, by rw [hy2]; exact hy, ?_, hb2, ?_, ?_, ?_⟩
        · intro i hi
          rw [hr2, hr2]
          by_cases hik : i = k
          · subst hik
            rw [if_pos (by omega), if_pos (by omega), show 2 * i - 2 * i * 1 = 0 by omega, show 2 * i + 1 - 2 * i * 1 = 1 by omega, HBX.out]
            exact ⟨by rw [← dg_at _ _ _ rfl]; rfl, by rw [← dg_at _ _ _ rfl]; rfl⟩
          · rw [if_neg (by omega), if_neg (by omega)]
            exact hrow i (by omega)
        · rw [hk2 _ (by omega)]; exact heap_old HGR.out _
        · rw [hs2]; simp; omega
        · exact (hbel.drew.alloc (by show w.heap.size ≤ wr.heap.size; omega) _).trans (hB2 _ (by omega))
      case measure => simp [intOf]; omega
    · obtain rfl : k = 20 := by omega
      have hconv := run_convert_bytes_arg (P := Ybaf.prog) wr 58 5 Ybaf.underlying58 Ybaf.underlying5 (w.heap.size + 1) 0 40 40 (hexNums c) (hexNums_length c) (fun i hi => by rw [Nat.zero_add]; exact cell_heap hbr (hex_at hrow i hi)) 9 Ybaf.underlying9
      go_wp2
      go_ret
      exact ⟨rfl, hbel⟩

set_option maxHeartbeats 1000000 in
theorem owner_any (g n cp : Nat) (arr c : Array Value) (hc : IsId c) (hA : Ids arr n) (hn : n ≤ 4096) (w : World) (hg : w.heap[g]? = some (.cells arr 25 (0, 0))) :
    Calls Ybaf.prog 7 #[.slice (some ⟨g, 0, none⟩) n cp, .agg c] w fun e w' => (∃ k : Int, -1 ≤ k ∧ k < n ∧ e = .returned (.int .i64 k)) ∧ Below w.heap.size w w' := by
  have hcs := hc.1
  have HG := Hid.mk hg
  clear hg
  by_cases h0 : n = 0
  · subst h0
    go_enter Ybaf.func7, Ybaf.ntmps7
    go_wp2
    go_ret
    exact ⟨⟨-1, by omega, by omega, rfl⟩, (Below.refl _ _).alloc (Nat.le_refl _) _⟩
  · have hnb : ((n : Int) == 0) = false := by simp; omega
    go_enter Ybaf.func7, Ybaf.ntmps7
    go_wp2_with fail
    refine (search_any g n cp arr c hc hA hn _ (heap_old HG.out _)).mono ?_
    rintro e w1 ⟨⟨k, r, hk, rfl⟩, hb1⟩
    have hbel : Below w.heap.size w w1 := ((Below.refl _ _).alloc (Nat.le_refl _) _).trans (hb1.mono (by simp))
    clear hb1 HG
    by_cases hkn : k = n
    · have hkb : ((k : Int) == (n : Int)) = true := by simp [hkn]
      clear hkn
      go_wp2
      go_ret
      exact ⟨⟨0, by omega, by omega, rfl⟩, hbel⟩
    · have hkb : ((k : Int) == (n : Int)) = false := by simp; omega
      go_wp2
      go_ret
      exact ⟨⟨k, by omega, by omega, rfl⟩, hbel⟩

end Go.Proofs.YbulkdzhaFmt
