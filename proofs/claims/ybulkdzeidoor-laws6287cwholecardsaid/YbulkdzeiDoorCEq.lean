/-
  THE WALKS of slices.Clone and slices.Equal, at floats and at ints.
-/
import Derived.Test.YbulkdzeiDoorCEnd
import Derived.Lib.SliceRun
namespace Go.Proofs.YbulkdzeiDoor.C
open Go Go.RowKit

theorem infoF : (Ybad.prog.info? 24).map (fun i => (i.zero, i.size, i.bytes)) = some (some (.float .f64 0), 1, 8) := by kernel_rfl
theorem infoI : (Ybad.prog.info? 3).map (fun i => (i.zero, i.size, i.bytes)) = some (some (.int .i64 0), 1, 8) := by kernel_rfl

/-- What Clone leaves. -/
def Cloned (e : TypeId) (n : Nat) (xs : List Value) (w : World) (en : Ending) (w' : World) : Prop := ∃ v', en = .returned v' ∧ w'.ownsRow w.heap.size e 1 v' n xs ∧ Below w.heap.size w w'

set_option maxRecDepth 100000 in
set_option maxHeartbeats 1000000 in
theorem cloneF_any (n base : Nat) (v : Value) (xs : List Value) (w : World) (hn : n ≤ 100000) (hv : w.ownsRow base 24 1 v n xs) (h1 : ∀ u ∈ xs, u.oneCell' = true) :
    Calls Ybad.prog 13 #[v] w fun e w' => Cloned 24 n xs w e w' := by
  obtain ⟨i0, hi, hz0, hz1, hz2⟩ := info_parts infoF
  have hnil := fun (w : World) (a : Option Addr) (n c : Nat) => Lib.run_eql_slice_nil (P := Ybad.prog) w 22 24 a n c 0 0 Ybad.underlying22
  rcases hv.2 with ⟨rfl, rfl⟩ | ⟨g, cap, cur, rfl, h2, h3, h4, h5, h6, h7⟩
  · have hx : xs = [] := List.eq_nil_of_length_eq_zero (by simpa using hv.1)
    subst hx
    go_enter Ybad.func13, Ybad.ntmps13
    go_wp2_with fail
    go_ret
    exact ⟨_, rfl, World.ownsRow_nil _ _ _ _, Below.refl _ _⟩
  · have hcells : ∀ j u, xs[j]? = some u → w.cell? ((⟨g, 0, none⟩ : Addr).add j) = some u := hv.cells (g := g) rfl
    have HC : Hid (∀ j u, xs[j]? = some u → (w.alloc (.cells #[] 24)).cell? ((⟨g, 0, none⟩ : Addr).add j) = some u) := fun j u hu => cell_below ((Below.refl _ _).alloc (Nat.le_refl _) _) (hcells j u hu)
    have H1 := Hid.mk h1
    have HLN : Hid (xs.length = n * 1) := hv.1
    clear hv h1 h2 h3 h4 h5 h6 h7 hcells
    go_enter Ybad.func13, Ybad.ntmps13
    go_wp2_with (at_builtin; refine wpList_append_own _ rfl _ _ 22 rfl w.heap.size 24 i0 _ 1 8 Ybad.underlying22 hi hz0 hz1 hz2 rfl (by omega) (.slice (some ⟨w.heap.size, 0, none⟩) 0 0) 0 [] rfl (by exact World.ownsRow_made w #[] 0 (Nat.le_refl _) (by unfold maxLen; omega) rfl) ⟨g, 0, none⟩ n cap xs rfl HLN.out HC.out H1.out (by unfold maxLen; omega) (by omega) (by simp) ?_; intro v1 w1 ho1 hg1 hn1)
    go_ret
    simp only [Nat.zero_add, List.nil_append] at ho1
    refine ⟨_, rfl, ho1, ((Below.refl _ _).alloc (Nat.le_refl _) _).trans ⟨hg1.os, hg1.tape, hg1.output, hg1.size, fun k hk => hg1.block k (by simp; omega) (fun e => by simp [Value.ownBlock] at e; omega)⟩⟩

set_option maxRecDepth 100000 in
set_option maxHeartbeats 1000000 in
theorem cloneI_any (n base : Nat) (v : Value) (xs : List Value) (w : World) (hn : n ≤ 100000) (hv : w.ownsRow base 3 1 v n xs) (h1 : ∀ u ∈ xs, u.oneCell' = true) :
    Calls Ybad.prog 14 #[v] w fun e w' => Cloned 3 n xs w e w' := by
  obtain ⟨i0, hi, hz0, hz1, hz2⟩ := info_parts infoI
  have hnil := fun (w : World) (a : Option Addr) (n c : Nat) => Lib.run_eql_slice_nil (P := Ybad.prog) w 37 3 a n c 0 0 Ybad.underlying37
  rcases hv.2 with ⟨rfl, rfl⟩ | ⟨g, cap, cur, rfl, h2, h3, h4, h5, h6, h7⟩
  · have hx : xs = [] := List.eq_nil_of_length_eq_zero (by simpa using hv.1)
    subst hx
    go_enter Ybad.func14, Ybad.ntmps14
    go_wp2_with fail
    go_ret
    exact ⟨_, rfl, World.ownsRow_nil _ _ _ _, Below.refl _ _⟩
  · have hcells : ∀ j u, xs[j]? = some u → w.cell? ((⟨g, 0, none⟩ : Addr).add j) = some u := hv.cells (g := g) rfl
    have HC : Hid (∀ j u, xs[j]? = some u → (w.alloc (.cells #[] 3)).cell? ((⟨g, 0, none⟩ : Addr).add j) = some u) := fun j u hu => cell_below ((Below.refl _ _).alloc (Nat.le_refl _) _) (hcells j u hu)
    have H1 := Hid.mk h1
    have HLN : Hid (xs.length = n * 1) := hv.1
    clear hv h1 h2 h3 h4 h5 h6 h7 hcells
    go_enter Ybad.func14, Ybad.ntmps14
    go_wp2_with (at_builtin; refine wpList_append_own _ rfl _ _ 37 rfl w.heap.size 3 i0 _ 1 8 Ybad.underlying37 hi hz0 hz1 hz2 rfl (by omega) (.slice (some ⟨w.heap.size, 0, none⟩) 0 0) 0 [] rfl (by exact World.ownsRow_made w #[] 0 (Nat.le_refl _) (by unfold maxLen; omega) rfl) ⟨g, 0, none⟩ n cap xs rfl HLN.out HC.out H1.out (by unfold maxLen; omega) (by omega) (by simp) ?_; intro v1 w1 ho1 hg1 hn1)
    go_ret
    simp only [Nat.zero_add, List.nil_append] at ho1
    refine ⟨_, rfl, ho1, ((Below.refl _ _).alloc (Nat.le_refl _) _).trans ⟨hg1.os, hg1.tape, hg1.output, hg1.size, fun k hk => hg1.block k (by simp; omega) (fun e => by simp [Value.ownBlock] at e; omega)⟩⟩

theorem fl_one (D : Nat → Int) (n : Nat) : ∀ u ∈ fl D n, u.oneCell' = true := fun u hu => by
  simp only [fl, List.mem_map] at hu
  obtain ⟨_, _, rfl⟩ := hu
  rfl
theorem nl_one (L : Nat → Nat) (n : Nat) : ∀ u ∈ nl L n, u.oneCell' = true := fun u hu => by
  simp only [nl, List.mem_map] at hu
  obtain ⟨_, _, rfl⟩ := hu
  rfl

/-- A row that is read. -/
structure VRow (w : World) (v : Value) (n : Nat) (X : Nat → Value) : Prop where
  len : ∃ a c, v = .slice a n c
  at' : ∀ k, k < n → ∃ g c, v = .slice (some ⟨g, 0, none⟩) n c ∧ w.cell? ⟨g, k, none⟩ = some (X k)
theorem VRow.below {w w' : World} {v : Value} {n : Nat} {X : Nat → Value} (h : VRow w v n X) (hb : Below w.heap.size w w') : VRow w' v n X :=
  ⟨h.len, fun k hk => by obtain ⟨g, c, h1, h2⟩ := h.at' k hk; exact ⟨g, c, h1, cell_below hb h2⟩⟩
theorem VRow.fl {w : World} {base n : Nat} {v : Value} {D : Nat → Int} (h : w.ownsRow base 24 1 v n (fl D n)) : VRow w v n (fun k => .float .f64 (fi (D k))) :=
  ⟨own_form h, fun k hk => by obtain ⟨b, c, cur, h1, h2, _⟩ := own_cell h (fl_get D hk); exact ⟨b, c, h1, h2⟩⟩
theorem VRow.nl {w : World} {base n : Nat} {v : Value} {L : Nat → Nat} (h : w.ownsRow base 3 1 v n (nl L n)) : VRow w v n (fun k => .int .i64 (L k : Int)) :=
  ⟨own_form h, fun k hk => by obtain ⟨b, c, cur, h1, h2, _⟩ := own_cell h (nl_get L hk); exact ⟨b, c, h1, h2⟩⟩

set_option maxRecDepth 100000 in
set_option maxHeartbeats 1000000 in
theorem equalF_any (n : Nat) (v v' : Value) (D : Nat → Int) (w : World) (hn : n ≤ 100000) (hD : ∀ i, i < n → (D i).natAbs < 1000000) (hv : VRow w v n (fun k => .float .f64 (fi (D k)))) (hv' : VRow w v' n (fun k => .float .f64 (fi (D k)))) :
    Calls Ybad.prog 17 #[v, v'] w fun e w' => e = .returned (.bool true) ∧ Below w.heap.size w w' := by
  obtain ⟨a, c, rfl⟩ := hv.len
  obtain ⟨a', c', rfl⟩ := hv'.len
  have HV := Hid.mk hv
  have HV' := Hid.mk hv'
  have HD := Hid.mk hD
  clear hv hv' hD
  go_enter Ybad.func17, Ybad.ntmps17
  go_wp2_with fail
  go_loopw [5, 13] (fun _ i wr => ∃ k : Nat, k ≤ n ∧ i = .int .i64 (k : Int) ∧ Below w.heap.size w wr) (fun _ i _ => n - (intOf i).toNat)
  case atStart => exact ⟨0, by omega, rfl, Below.refl _ _⟩
  case round =>
    obtain ⟨k, hk, rfl, hbel⟩ := hrel
    by_cases hlt : k < n
    · obtain ⟨g, d, h1, h2⟩ := (HV.out.below hbel).at' k hlt
      obtain ⟨g', d', h1', h2'⟩ := (HV'.out.below hbel).at' k hlt
      cases h1
      cases h1'
      have k0 : (0 : Int) ≤ (k : Int) := by omega
      have k1 : (k : Int) < (n : Int) := by omega
      have hb := HD.out k hlt
      have ho := fi_ord (n := D k) (m := D k) (by omega) (by omega)
      rw [Int.compare_eq_eq.2 rfl] at ho
      clear hb
      go_wp2_with fail
      go_quiet (fail)
      go_wp2_with fail
      go_roundw
      case rel => exact ⟨k + 1, by omega, by go_num, below_drewN hbel _⟩
      case measure => simp [intOf]; omega
    · obtain rfl : k = n := by omega
      go_wp2_with fail
      go_ret
      exact ⟨rfl, hbel⟩

set_option maxRecDepth 100000 in
set_option maxHeartbeats 1000000 in
theorem equalI_any (n : Nat) (v v' : Value) (L : Nat → Nat) (w : World) (hn : n ≤ 100000) (hv : VRow w v n (fun k => .int .i64 (L k : Int))) (hv' : VRow w v' n (fun k => .int .i64 (L k : Int))) :
    Calls Ybad.prog 18 #[v, v'] w fun e w' => e = .returned (.bool true) ∧ Below w.heap.size w w' := by
  obtain ⟨a, c, rfl⟩ := hv.len
  obtain ⟨a', c', rfl⟩ := hv'.len
  have HV := Hid.mk hv
  have HV' := Hid.mk hv'
  clear hv hv'
  go_enter Ybad.func18, Ybad.ntmps18
  go_wp2_with fail
  go_loopw [5, 13] (fun _ i wr => ∃ k : Nat, k ≤ n ∧ i = .int .i64 (k : Int) ∧ Below w.heap.size w wr) (fun _ i _ => n - (intOf i).toNat)
  case atStart => exact ⟨0, by omega, rfl, Below.refl _ _⟩
  case round =>
    obtain ⟨k, hk, rfl, hbel⟩ := hrel
    by_cases hlt : k < n
    · obtain ⟨g, d, h1, h2⟩ := (HV.out.below hbel).at' k hlt
      obtain ⟨g', d', h1', h2'⟩ := (HV'.out.below hbel).at' k hlt
      cases h1
      cases h1'
      have k0 : (0 : Int) ≤ (k : Int) := by omega
      have k1 : (k : Int) < (n : Int) := by omega
      go_wp2_with fail
      go_quiet (fail)
      go_wp2_with fail
      go_roundw
      case rel => exact ⟨k + 1, by omega, by go_num, below_drewN hbel _⟩
      case measure => simp [intOf]; omega
    · obtain rfl : k = n := by omega
      go_wp2_with fail
      go_ret
      exact ⟨rfl, hbel⟩
end Go.Proofs.YbulkdzeiDoor.C
