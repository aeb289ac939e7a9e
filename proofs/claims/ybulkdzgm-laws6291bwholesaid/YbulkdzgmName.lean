/-
  THE NAMES: plain, and the walk of zzs6291baddr.
-/
import Derived.Test.YbulkdzgmKnown
import Derived.Laws.BytesArg
namespace Go.Proofs.Ybulkdzgm
open Go Go.RowKit

/-- The digits of i, the last one first. -/
def rdig : Nat → Nat → List Int
  | 0, _ => []
  | f + 1, i => if i = 0 then [] else ((48 + i % 10 : Nat) : Int) :: rdig f (i / 10)
def val : List Int → Int
  | [] => 0
  | x :: l => (x - 48) + 10 * val l
theorem val_rdig : ∀ f i, i < f → val (rdig f i) = i
  | 0, i, h => by omega
  | f + 1, i, h => by
    unfold rdig
    split
    · rename_i h0; subst h0; rfl
    · simp only [val]
      rw [val_rdig f (i / 10) (by omega)]
      omega
theorem rdig_byte : ∀ f i, ∀ x ∈ rdig f i, 0 ≤ x ∧ x ≤ 255
  | 0, i, x, h => by simp [rdig] at h
  | f + 1, i, x, h => by
    unfold rdig at h
    split at h
    · simp at h
    · rcases List.mem_cons.1 h with rfl | h
      · omega
      · exact rdig_byte f _ x h
theorem rdig_len : ∀ f i, (rdig f i).length ≤ f
  | 0, i => by simp [rdig]
  | f + 1, i => by
    unfold rdig
    split
    · simp
    · have := rdig_len f (i / 10); simp; omega
/-- The bytes of name i. -/
def nameL (i : Nat) : List Int := if i = 0 then [112, 48] else 112 :: (rdig 1000 i).reverse
theorem nameL_inj {i j : Nat} (hi : i < 1000) (hj : j < 1000) (h : nameL i = nameL j) : i = j := by
  have key : ∀ i, i < 1000 → val (nameL i).tail.reverse = i := fun i hi => by
    unfold nameL
    split
    · rename_i h0; subst h0; rfl
    · simp only [List.tail_cons, List.reverse_reverse]
      exact val_rdig 1000 i hi
  have h1 := key i hi
  have h2 := key j hj
  rw [h] at h1
  omega

theorem nameL_byte (i : Nat) : ∀ x ∈ nameL i, 0 ≤ x ∧ x ≤ 255 := by
  intro x hx
  unfold nameL at hx
  split at hx
  · simp at hx; omega
  · rcases List.mem_cons.1 hx with rfl | hx
    · omega
    · exact rdig_byte _ _ x (by simpa using hx)
/-- Name i. -/
def name (i : Nat) : ByteArray := strOfNums (nameL i)
theorem strOfNums_inj {xs ys : List Int} (hx : ∀ x ∈ xs, 0 ≤ x ∧ x ≤ 255) (hy : ∀ x ∈ ys, 0 ≤ x ∧ x ≤ 255) (h : strOfNums xs = strOfNums ys) : xs = ys := by
  have h1 : xs.map (fun n => UInt8.ofNat n.toNat) = ys.map (fun n => UInt8.ofNat n.toNat) := by
    unfold strOfNums at h
    have h2 := congrArg ByteArray.data h
    have h3 := congrArg Array.toList h2
    simpa using h3
  have back : ∀ l : List Int, (∀ x ∈ l, 0 ≤ x ∧ x ≤ 255) → (l.map (fun n => UInt8.ofNat n.toNat)).map (fun u => (u.toNat : Int)) = l := fun l hl => by
    rw [List.map_map]
    have : ∀ x ∈ l, ((fun u : UInt8 => (u.toNat : Int)) ∘ fun n : Int => UInt8.ofNat n.toNat) x = x := fun x hx => by
      have := hl x hx
      simp only [Function.comp, UInt8.toNat_ofNat']
      omega
    rw [List.map_congr_left this]
    simp
  rw [← back xs hx, ← back ys hy, h1]
theorem name_inj {i j : Nat} (hi : i < 1000) (hj : j < 1000) (h : name i = name j) : i = j := nameL_inj hi hj (strOfNums_inj (nameL_byte i) (nameL_byte j) h)
theorem nameL_len (i : Nat) : (nameL i).length ≤ 1001 := by
  unfold nameL
  split
  · simp
  · have := rdig_len 1000 i; simp; omega
theorem name_size (i : Nat) : (name i).size ≤ maxLen := by
  have h := nameL_len i
  have : (name i).size = (nameL i).length := by simp [name, strOfNums, ByteArray.size]
  rw [this]
  unfold maxLen
  omega
theorem below_own {base : Nat} {w w1 w2 : World} {v : Value} {e : TypeId} {n : Nat} {xs : List Value} (h : Below base w w1) (hb : base ≤ w1.heap.size) (ho : w1.ownsRow base e 1 v n xs) (hg : w1.grownBy w2 v.ownBlock) : Below base w w2 :=
  h.trans ⟨hg.os, hg.tape, hg.output, hg.size, fun k hk => hg.block k (by omega) (fun e => by have := (ho.lt k e.symm).1; omega)⟩

/-- Bytes as they lie in cells. -/
def bys (l : List Int) : List Value := l.map (.int .u8)
theorem bys_length (l : List Int) : (bys l).length = l.length := by simp [bys]
theorem info5' : (Yba.prog.info? 5).map (fun i => (i.zero, i.size, i.bytes)) = some (some (.int .u8 0), 1, 1) := by kernel_rfl

set_option maxRecDepth 100000 in
set_option maxHeartbeats 1000000 in
theorem addr_any (i : Nat) (hi : i < 1000) (w : World) : Calls Yba.prog 4 #[.int .i64 i] w fun e w' => e = .returned (.string (name i)) ∧ Below w.heap.size w w' := by
  obtain ⟨i0, hi5, hz0, hz1, hz2⟩ := info_parts info5'
  by_cases h0 : i = 0
  · subst h0
    have hnm : (⟨#[112, 48]⟩ : ByteArray) = name 0 := rfl
    go_enter Yba.func4, Yba.ntmps4
    go_wp2_with fail
    go_ret
    exact ⟨rfl, Below.refl _ _⟩
  · have hne : ((i : Int) == 0) = false := by simp; omega
    go_enter Yba.func4, Yba.ntmps4
    go_wp2_with fail
    go_loopw [0, 3] (fun a v wr => ∃ (j f : Nat) (ds : List Int), j ≤ i ∧ j < f ∧ f + ds.length = 1000 ∧ a = .int .i64 (j : Int) ∧ rdig 1000 i = ds ++ rdig f j ∧ wr.ownsRow w.heap.size 5 1 v ds.length (bys ds) ∧ Below w.heap.size w wr) (fun a _ _ => (intOf a).toNat)
    case atStart => exact ⟨i, 1000, [], Nat.le_refl _, hi, rfl, rfl, rfl, World.ownsRow_nil _ _ _ _, Below.refl _ _⟩
    case round =>
      obtain ⟨j, f, ds, hj, hjf, hf, rfl, hr, ho, hb⟩ := hrel
      have HO := Hid.mk ho
      have HR := Hid.mk hr
      clear ho hr
      by_cases hj0 : j = 0
      · subst hj0
        have hrd : rdig 1000 i = ds := by
          have h1 := HR.out
          rw [show rdig f 0 = [] by cases f <;> simp [rdig], List.append_nil] at h1
          exact h1
        have hnl : nameL i = 112 :: ds.reverse := by unfold nameL; rw [if_neg h0, hrd]
        have hdl : 0 < ds.length := by
          rcases Nat.eq_zero_or_pos ds.length with h | h
          · have h1 := val_rdig 1000 i hi
            rw [hrd, List.eq_nil_of_length_eq_zero h] at h1
            simp [val] at h1; omega
          · exact h
        obtain ⟨g, cap, hu3⟩ : ∃ g c, u3 = .slice (some ⟨g, 0, none⟩) ds.length c := by
          rcases HO.out.2 with ⟨_, h2⟩ | ⟨g, cap, _, h1, _⟩
          · omega
          · exact ⟨_, _, h1⟩
        subst hu3
        have hwl : IntKind.i64.wrap ((ds.length : Int) - 1) = (ds.length : Int) - 1 := by rw [IntKind.wrap_i64]; omega
        clear HR hrd
        go_wp2_with fail
        obtain ⟨L, hL⟩ : ∃ L, ds.length = L := ⟨_, rfl⟩
        have hdc : ∀ k, k < L → wr.cell? ⟨g, k, none⟩ = some (.int .u8 (ds.getD k 0)) := fun k hk => by
          have h1 := HO.out.cells (g := g) rfl k (.int .u8 (ds.getD k 0)) (by simp [bys, List.getD_eq_getElem?_getD, List.getElem?_eq_getElem (show k < ds.length by omega)])
          rwa [Addr.add_lit, Nat.zero_add] at h1
        have HDC := Hid.mk hdc
        have HNL := Hid.mk hnl
        have HB0 := Hid.mk hb
        have HL := Hid.mk hL
        rw [hL] at hwl hdl hf ⊢
        rw [show ((0 : Nat) : Int) = 0 from rfl]
        clear HO hdc hnl hb hL
        obtain ⟨wq, rfl⟩ : ∃ x, x = wr := ⟨wr, rfl⟩
        go_loopw [4, 5] (fun v k wx => ∃ (t : Nat), t ≤ L ∧ k = .int .i64 ((L : Int) - 1 - (t : Int)) ∧ wx.ownsRow wq.heap.size 5 1 v (t + 1) (bys (112 :: ds.reverse.take t)) ∧ Below wq.heap.size wq wx) (fun _ k _ => ((intOf k) + 1).toNat)
        case atStart =>
          refine ⟨0, by omega, by simp, ⟨by simp [bys], .inr ⟨wq.heap.size, 1, _, rfl, Nat.le_refl _, heap_alloc_new _ _, Nat.le_refl _, by unfold maxLen; omega, rfl, rfl⟩⟩, (Below.refl _ _).alloc (Nat.le_refl _) _⟩
        case round =>
          obtain ⟨t, ht, rfl, ho, hb2⟩ := hrel
          obtain ⟨g2, c2, hv2⟩ : ∃ g c, u4 = .slice (some ⟨g, 0, none⟩) (t + 1) c := by
            rcases ho.2 with ⟨_, h2⟩ | ⟨g, cap, _, h1, _⟩
            · omega
            · exact ⟨_, _, h1⟩
          subst hv2
          have HO := Hid.mk ho
          clear ho
          by_cases htl : t < L
          · obtain ⟨kk, hkk⟩ : ∃ kk : Nat, kk = L - 1 - t := ⟨_, rfl⟩
            have hkz : (L : Int) - 1 - (t : Int) = (kk : Int) := by omega
            have hkl : kk < L := by omega
            have c1 := cell_below hb2 (HDC.out kk hkl)
            obtain ⟨x, hx⟩ : ∃ x, ds.getD kk 0 = x := ⟨_, rfl⟩
            rw [hx] at c1
            rw [hkz]
            have HX : Hid (bys (112 :: ds.reverse.take t) ++ [.int .u8 x] = bys (112 :: ds.reverse.take (t + 1))) := by
              show _ = _
              have hl := HL.out
              rw [List.take_add_one, List.getElem?_reverse (by omega), show ds.length - 1 - t = kk by omega]
              rw [← hx, List.getD_eq_getElem?_getD, List.getElem?_eq_getElem (show kk < ds.length by omega)]
              simp [bys]
            have HK := Hid.mk hkk
            have k0 : (0 : Int) ≤ (kk : Int) := by omega
            have k1 : (kk : Int) < (L : Int) := by omega
            have hwk : IntKind.i64.wrap ((kk : Int) - 1) = (kk : Int) - 1 := by rw [IntKind.wrap_i64]; omega
            have hone : ∀ u ∈ ([Value.int .u8 x] : List Value), u.oneCell' = true := fun u hu => by simp at hu; subst hu; rfl
            have HKZ := Hid.mk hkz
            clear hkk hx hkz
            go_wp2_with (at_builtin; refine wpList_append_own _ rfl _ _ 59 rfl wq.heap.size 5 i0 _ 1 1 Yba.underlying59 hi5 hz0 hz1 hz2 rfl (by omega) (.slice (some ⟨g2, 0, none⟩) (t + 1) c2) (t + 1) (bys (112 :: ds.reverse.take t)) rfl (by exact HO.out.alloc _) ⟨wr.heap.size, 0, none⟩ 1 1 [.int .u8 x] rfl rfl (by
              intro k u hu
              match k, hu with
              | 0, hu => simp at hu; subst hu; exact cell_heap (heap_alloc_new _ _) rfl) hone (by unfold maxLen; omega) (by omega) (by exact Nat.le_trans hb2.size (by simp)) ?_; intro v1 w1 ho1 hg1 hn1)
            have hb1 : Below wq.heap.size wq w1 := below_own (hb2.alloc hb2.size _) (Nat.le_trans hb2.size (by simp)) (HO.out.alloc _) hg1
            rw [HX.out] at ho1
            go_roundw
            case rel => exact ⟨t + 1, by omega, by congr 1; have := HKZ.out; push_cast; omega, ho1, hb1⟩
            case measure => simp [intOf]
          · obtain rfl : t = L := by omega
            have hneg : ¬ ((0 : Int) ≤ (t : Int) - 1 - (t : Int)) := by omega
            have hnegd : decide ((0 : Int) ≤ (t : Int) - 1 - (t : Int)) = false := by simp; omega
            have hconv : (convert 59 9 (.slice (some ⟨g2, 0, none⟩) (t + 1) c2)).run Yba.prog wr = .ok (.string (name i)) wr := by
              have h1 : 112 :: ds.reverse.take t = nameL i := by rw [HNL.out, List.take_of_length_le (by rw [List.length_reverse, HL.out]; exact Nat.le_refl _)]
              have h2 : (nameL i).length = t + 1 := by rw [← h1]; have := HL.out; simp; omega
              have h3 := HO.out
              rw [h1] at h3
              exact run_convert_bytes_arg wr 59 5 Yba.underlying59 Yba.underlying5 g2 0 (t + 1) c2 (nameL i) h2 (fun k hk => by
                have h4 := h3.cells (g := g2) rfl k (.int .u8 ((nameL i).getD k 0)) (by simp [bys, List.getD_eq_getElem?_getD, List.getElem?_eq_getElem (show k < (nameL i).length by omega)])
                rw [Addr.add_lit, Nat.zero_add] at h4
                rwa [Nat.zero_add]) 9 Yba.underlying9
            go_wp2_with fail
            go_ret
            exact ⟨rfl, HB0.out.trans (hb2.mono HB0.out.size)⟩
      · obtain ⟨b0, c0, hu2⟩ : ∃ a c, u3 = .slice a ds.length c := by
          rcases HO.out.2 with ⟨h1, h2⟩ | ⟨g, cap, _, h1, _⟩
          · exact ⟨none, 0, by rw [h1, h2]⟩
          · exact ⟨_, _, h1⟩
        subst hu2
        have hpos : decide ((0 : Int) < (j : Int)) = true := by simp; omega
        have hpos' : (0 : Int) < (j : Int) := by omega
        have hw8 : IntKind.u8.wrap (48 + (j : Int) % 10) = 48 + (j : Int) % 10 := by simp [IntKind.wrap, IntKind.bits, IntKind.signed]; omega
        have hone : ∀ u ∈ ([Value.int .u8 (48 + (j : Int) % 10)] : List Value), u.oneCell' = true := fun u hu => by simp at hu; subst hu; rfl
        go_wp2_with (at_builtin; refine wpList_append_own _ rfl _ _ 59 rfl w.heap.size 5 i0 _ 1 1 Yba.underlying59 hi5 hz0 hz1 hz2 rfl (by omega) (.slice b0 ds.length c0) ds.length (bys ds) rfl (by exact HO.out.alloc _) ⟨wr.heap.size, 0, none⟩ 1 1 [.int .u8 (48 + (j : Int) % 10)] rfl rfl (by
          intro k u hu
          match k, hu with
          | 0, hu => simp at hu; subst hu; exact cell_heap (heap_alloc_new _ _) rfl) hone (by unfold maxLen; omega) (by omega) (by exact Nat.le_trans hb.size (by simp)) ?_; intro v1 w1 ho1 hg1 hn1)
        have hb1 : Below w.heap.size w w1 := below_own (hb.alloc hb.size _) (Nat.le_trans hb.size (by simp)) (HO.out.alloc _) hg1
        have ho1' : w1.ownsRow w.heap.size 5 1 v1 (ds ++ [48 + (j : Int) % 10]).length (bys (ds ++ [48 + (j : Int) % 10])) := by
          rw [List.length_append]
          simpa [bys] using ho1
        go_roundw
        case rel =>
          obtain ⟨f', rfl⟩ : ∃ f', f = f' + 1 := ⟨f - 1, by omega⟩
          refine ⟨j / 10, f', ds ++ [48 + (j : Int) % 10], by omega, by omega, by simp; omega, by congr 1, ?_, ho1', hb1⟩
          rw [HR.out]
          conv => lhs; unfold rdig
          rw [if_neg hj0, List.append_assoc]
          congr 1
        case measure => simp [intOf]; omega
end Go.Proofs.Ybulkdzgm
