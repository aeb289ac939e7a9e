/-
  wp_region_ins WITH A FIRST PHASE: 'hz': operations that read no memory, taken in this order whatever else stands ready.
-/
import Derived.Test.YbulkdzeiDoorCIns
namespace Go.Proofs.YbulkdzeiDoor.C
open Go
section
variable {P : Program} {ops : Array Oper} {Q : Exit → Act → World → Prop} {md : Region.Mode} {S : World → Prop} {ks : List Nat}

theorem takeI_closed : ∀ (hs : List Nat) (listed listed2 : Array Bool), ClosedL md ops listed → takeB md ops hs listed = some listed2 → ClosedL md ops listed2
  | [], listed, listed2, h, hB => by
    have : listed = listed2 := by simpa [takeB] using hB
    exact this ▸ h
  | k :: r, listed, listed2, h, hB => by
    unfold takeB at hB
    split at hB
    · rename_i hr
      simp only [Bool.and_eq_true] at hr
      exact takeI_closed r _ _ (h.set (by simpa using hr.1)) hB
    · cases hB
theorem wpAnyI_drop {ks2 : List Nat} : ∀ (fuel : Nat) (listed : Array Bool) (a : Act) (w : World), wpAnyK P md ops Q S ks fuel listed a w → wpAnyK P md ops Q (fun _ => True) ks2 fuel listed a w
  | 0, _, _, _, h => h
  | fuel + 1, _, _, _, h => ⟨h.1, fun i hi => wpOp_mono (fun a' w' h' => ⟨fun _ => trivial, wpAnyI_drop fuel _ a' w' h'.2⟩) (h.2 i hi)⟩

def planI3 (md : Region.Mode) (ops : Array Oper) (hz hs : List Nat) (x : Nat) (ps rest ks : List Nat) : Bool :=
  Region.noSelect ops && decide (hz.length + (hs.length + (ps.length + (rest.length + 1))) = ops.size) && (hs.all fun i => (List.range ops.size).all fun j => ks.contains j || reachB md ops ops.size j i) &&
    match takeB md ops hz (Array.replicate ops.size false) with
    | some listed0 => (match takeB md ops hs listed0 with
      | some listed => insB md ops x rest ps listed
      | none => false)
    | none => false

/-- **THE LAW.** -/
theorem wp_region_ins3 {id : Nat} {a : Act} {w : World} (hz hs : List Nat) (x : Nat) (ps rest ks : List Nat) (S : World → Prop) (hmix : P.follows .mixedOrders = true) (hB : planI3 .any ops hz hs x ps rest ks = true)
    (hQ : ∀ c a (d : Option Tmp) v w, Q (.panic c) (a.put d v) w → Q (.panic c) a w) (hS : S w.drew)
    (h : wpHead P ops (fun _ => True) (fun a0 => wpHead P ops S (fun a' => wpIns P ops Q S ks x rest ps a' w.drew) hs a0) hz a) : (Code.region id ops true).wp P Q a w := by
  simp only [planI3, Bool.and_eq_true, decide_eq_true_eq, List.all_eq_true, Bool.or_eq_true, List.mem_range] at hB
  obtain ⟨⟨⟨hsel, hlen⟩, hzz⟩, hB⟩ := hB
  have inv0 : ClosedL .any ops (Array.replicate ops.size false) := fun j oj _ hl => (by rw [getD_replicate_false] at hl; cases hl)
  split at hB
  · rename_i listed0 ht0
    split at hB
    · rename_i listed' ht
      have inv00 := takeI_closed _ _ _ inv0 ht0
      have H1 : ∀ a0, wpHead P ops S (fun a' => wpIns P ops Q S ks x rest ps a' w.drew) hs a0 → wpAnyK P .any ops Q (fun _ => True) (List.range ops.size) (hs.length + (ps.length + (rest.length + 1))) listed0 a0 w.drew := fun a0 h0 =>
        wpAnyI_drop _ _ _ _ (wpAnyK_lexI (md := .any) hsel (ps.length + (rest.length + 1)) hQ hS hs listed0 listed' a0 inv00 ht hzz (fun a' h' => wpAnyK_of_ins ps listed' a' w.drew hB h') h0)
      have H := wpAnyK_lexI (md := .any) (S := fun _ => True) (ks := List.range ops.size) hsel (hs.length + (ps.length + (rest.length + 1))) hQ (w := w.drew) trivial hz _ listed0 a inv0 ht0 (fun i _ j hj => .inl (by simpa using hj)) H1 h
      rw [hlen] at H
      exact wp_region_any hmix (wpAny_of_K _ _ _ _ H)
    · cases hB
  · cases hB
end
end Go.Proofs.YbulkdzeiDoor.C
