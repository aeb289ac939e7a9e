/-
  THE WALK of zzs6292aentry.
-/
import Derived.Test.YbulkdzhaSearch
namespace Go.Proofs.Ybulkdzha
open Go Go.RowKit

/-- A slice of numbers that came in. -/
def Came (k : IntKind) (w : World) (a0 : Option Addr) (zs : List Int) : Prop := (a0 = none ∧ zs = []) ∨ ∃ a, a0 = some a ∧ ∀ j, j < zs.length → w.cell? (a.add j) = some (.int k (zs.getD j 0))
theorem Came.at {k : IntKind} {w : World} {a0 : Option Addr} {zs : List Int} (h : Came k w a0 zs) {j : Nat} (hj : j < zs.length) : ∃ a, a0 = some a ∧ w.cell? (a.add j) = some (.int k (zs.getD j 0)) := by
  rcases h with ⟨_, rfl⟩ | ⟨a, h1, h2⟩
  · simp at hj
  · exact ⟨a, h1, h2 j hj⟩

/-- What is seen, and where the peer is. -/
def seenOf (ss : List Int) (i : Nat) : Int := if i < ss.length then ss.getD i 0 else (i : Int) * 3 - 5
def addrOf (us : List Int) (i : Nat) : Int := if i < us.length then us.getD i 0 else -(i : Int)
/-- The entry of number i. -/
def ent (g sn ad : Int) (i : Nat) : Array Value := #[.int .i64 ad, .int .i64 sn, .int .u8 (g % 6), .int .u16 (i : Int), .int .u16 g, .bool (g % 2 == 1)]

set_option maxHeartbeats 1000000 in
set_option maxRecDepth 100000 in
theorem entry_any (i cg cs ca : Nat) (a0 b0 c0 : Option Addr) (gs ss us : List Int) (w : World) (hi : i < gs.length) (hi2 : i < 65536) (hg : Came .u8 w a0 gs) (hs : Came .i64 w b0 ss) (ha : Came .i64 w c0 us) (hr : ∀ j, 0 ≤ gs.getD j 0 ∧ gs.getD j 0 ≤ 255) :
    Calls Yba.prog 5 #[.int .i64 i, .slice a0 gs.length cg, .slice b0 ss.length cs, .slice c0 us.length ca] w fun e w' => e = .returned (.agg (ent (gs.getD i 0) (seenOf ss i) (addrOf us i) i)) ∧ Below w.heap.size w w' := by
  obtain ⟨a, rfl, hga⟩ := hg.at hi
  obtain ⟨g, hgv⟩ : ∃ g, gs.getD i 0 = g := ⟨_, rfl⟩
  obtain ⟨g0, g1⟩ := hr i
  rw [hgv] at hga g0 g1 ⊢
  have i0 : (0 : Int) ≤ (i : Int) := by omega
  have i1 : (i : Int) < (gs.length : Int) := by omega
  clear hr hg hgv
  go_enter Yba.func5, Yba.ntmps5
  go_upto_if 18 with fail
  go_cut [9] (fun v wx => v = .int .i64 (seenOf ss i) ∧ wx = w.alloc (.cells #[.int .i64 0, .int .i64 0, .int .u8 0, .int .u16 0, .int .u16 0, .bool false] 38))
  case first =>
    by_cases h : i < ss.length
    · obtain ⟨b, rfl, hsb⟩ := hs.at h
      have hd : decide ((i : Int) < (ss.length : Int)) = true := by simp; omega
      have h2 : (i : Int) < (ss.length : Int) := by omega
      have hsn : seenOf ss i = ss.getD i 0 := by unfold seenOf; rw [if_pos h]
      obtain ⟨x, hx⟩ : ∃ x, ss.getD i 0 = x := ⟨_, rfl⟩
      rw [hx] at hsb hsn
      have HS := Hid.mk hsn
      have e1 := fun o => cell_below ((Below.refl w.heap.size w).alloc (Nat.le_refl _) o) hsb
      clear hsn hs ha hx
      go_wp2_with fail
      go_meet
      exact ⟨by rw [HS.out], rfl⟩
    · have hd : decide ((i : Int) < (ss.length : Int)) = false := by simp; omega
      have HS : Hid (seenOf ss i = (i : Int) * 3 - 5) := Hid.mk (by unfold seenOf; rw [if_neg h])
      go_wp2_with fail
      go_meet
      exact ⟨by rw [HS.out], rfl⟩
  case rest =>
    obtain ⟨rfl, rfl⟩ := hcut
    go_upto_if 28 with fail
    go_cut [10] (fun v wx => v = .int .i64 (addrOf us i) ∧ wx = w.alloc (.cells #[.int .i64 0, .int .i64 0, .int .u8 0, .int .u16 0, .int .u16 0, .bool false] 38))
    case first =>
      by_cases h : i < us.length
      · obtain ⟨b, rfl, hsb⟩ := ha.at h
        have hd : decide ((i : Int) < (us.length : Int)) = true := by simp; omega
        have h2 : (i : Int) < (us.length : Int) := by omega
        have hsn : addrOf us i = us.getD i 0 := by unfold addrOf; rw [if_pos h]
        obtain ⟨x, hx⟩ : ∃ x, us.getD i 0 = x := ⟨_, rfl⟩
        rw [hx] at hsb hsn
        have HS := Hid.mk hsn
        have e1 := fun o => cell_below ((Below.refl w.heap.size w).alloc (Nat.le_refl _) o) hsb
        clear hsn hs ha hx
        go_wp2_with fail
        go_meet
        exact ⟨by rw [HS.out], rfl⟩
      · have hd : decide ((i : Int) < (us.length : Int)) = false := by simp; omega
        have HS : Hid (addrOf us i = -(i : Int)) := Hid.mk (by unfold addrOf; rw [if_neg h])
        go_wp2_with fail
        go_meet
        exact ⟨by rw [HS.out], rfl⟩
    case rest =>
      obtain ⟨rfl, rfl⟩ := hcut
      have e1 := fun o => cell_below ((Below.refl w.heap.size w).alloc (Nat.le_refl _) o) hga
      obtain ⟨sn, hsn⟩ : ∃ x, seenOf ss i = x := ⟨_, rfl⟩
      obtain ⟨ad, had⟩ : ∃ x, addrOf us i = x := ⟨_, rfl⟩
      have H1 := Hid.mk hsn
      have H2 := Hid.mk had
      rw [hsn, had]
      clear hsn had hs ha
      have hw16 : IntKind.u16.wrap (i : Int) = (i : Int) := by simp [IntKind.wrap, IntKind.bits, IntKind.signed]; omega
      go_wp2_with fail
      refine bodyPost_ret (v := .agg (ent g sn ad i)) ?_ rfl ⟨by rw [H1.out, H2.out], (Below.refl _ _).alloc (Nat.le_refl _) _⟩
      simp [results, Yba.results5, go_sem, ent]
end Go.Proofs.Ybulkdzha
