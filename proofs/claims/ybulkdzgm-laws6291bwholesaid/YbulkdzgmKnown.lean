/-
  THE MAP 'known': which names it holds, and how many.
-/
import Derived.Test.YbulkdzgmClone
import Derived.Maps.OwnSet
import Derived.Maps.Views
namespace Go.Proofs.Ybulkdzgm
open Go Go.RowKit Go.Maps

theorem law9 : Keyed Yba.prog 9 := string_keyed Yba.underlying9
theorem zero4 (w : World) : (zeroValue 4).run Yba.prog w = .ok (.bool false) w := by kernel_rfl
def kl (s : ByteArray) : Lit := .string s.data.toList
theorem kl_inj {s t : ByteArray} (h : kl s = kl t) : s = t := by
  have h1 : s.data.toList = t.data.toList := by unfold kl at h; injection h
  have h2 := Array.toList_inj.1 h1
  cases s; cases t
  simp only at h2
  rw [h2]

/-- The map holds just the names of T, sz of them. -/
def Known (w : World) (b n : Nat) (T : ByteArray → Bool) (sz : Nat) : Prop :=
  ∃ D : DataW Unit, w.ownsMap Yba.prog 9 (plainElem Yba.prog 4) b n D ∧ (∀ s, s.size ≤ maxLen → D.atKey (kl s) (.lit (.bool false)) = .lit (.bool (T s)) ∧ has D (kl s) = T s) ∧ Maps.size D = sz

theorem Known.made (w : World) : Known (w.alloc (.map #[] 0)) w.heap.size 0 (fun _ => false) 0 :=
  ⟨.map [], World.ownsMap_made w _ _ _, fun _ _ => ⟨rfl, rfl⟩, rfl⟩
theorem Known.kept {w w' : World} {b n : Nat} {T : ByteArray → Bool} {sz : Nat} (h : Known w b n T sz) (hb : w'.heap[b]? = w.heap[b]?) : Known w' b n T sz := by
  obtain ⟨D, ⟨es, clock, h1, h2⟩, h3⟩ := h
  exact ⟨D, ⟨es, clock, hb.trans h1, h2⟩, h3⟩
theorem plain4_inv {v : Value} {x : Bool} {ps : List MemPlace} (h : plainElem (H := Unit) Yba.prog 4 v = some (.lit (.bool x), ps)) : v = .bool x := by
  have hu := Yba.underlying4
  unfold plainElem at h
  generalize Yba.prog.underlying 4 = u at h hu
  subst hu
  cases v <;> simp at h
  rw [h.1]
theorem Known.look {w : World} {b n : Nat} {T : ByteArray → Bool} {sz : Nat} (h : Known w b n T sz) {s : ByteArray} (hs : s.size ≤ maxLen) : (Instr.lookup 24 (.map (some b)) (.string s) false).run Yba.prog w = .ok (.bool (T s)) w := by
  obtain ⟨D, h1, h2, h3⟩ := h
  obtain ⟨v, ps, hrun, hR⟩ := h1.lookup law9 Yba.underlying24 (zero4 w) (plainElem_bool Yba.underlying4 false) (WideMaps.keyOf_string_mk Yba.underlying9 hs)
  have h4 := (h2 s hs).1
  unfold kl at h4
  rw [h4] at hR
  rw [plain4_inv hR] at hrun
  exact hrun
theorem Known.len {w : World} {b n : Nat} {T : ByteArray → Bool} {sz : Nat} (h : Known w b n T sz) (ty : TypeId) : (Builtin.len_ #[24] ty #[.map (some b)]).run Yba.prog w = .ok (.int .i64 sz) w := by
  obtain ⟨D, h1, h2, h3⟩ := h
  rw [← h3]
  exact h1.len Yba.underlying24 ty
theorem Known.put {w : World} {b n : Nat} {T : ByteArray → Bool} {sz : Nat} (h : Known w b n T sz) (hn : n < maxLen) {s : ByteArray} (hs : s.size ≤ maxLen) : ∃ w', (Instr.mapUpdate 24 (.map (some b)) (.string s) (.bool true)).run Yba.prog w = .ok () w' ∧
    Known w' b (n + 1) (fun t => decide (t = s) || T t) (if T s then sz else sz + 1) ∧ w.grownBy w' (some b) := by
  obtain ⟨D, h1, h2, h3⟩ := h
  have ht := h1.tidy law9
  obtain ⟨w', hrun, h4, h5⟩ := h1.update law9 Yba.underlying24 hn (WideMaps.keyOf_string_mk Yba.underlying9 hs) (plainElem_bool (H := Unit) Yba.underlying4 true)
  refine ⟨w', hrun, ⟨_, h4, fun t hts => ?_, ?_⟩, h5⟩
  · show _ = DataW.lit (.bool (decide (t = s) || T t)) ∧ _ = (decide (t = s) || T t)
    by_cases hst : t = s
    · subst hst
      have hd : decide (t = t) = true := by simp
      rw [hd, Bool.true_or]
      have hk : WideAt.IsKeyLit (kl t) := trivial
      exact ⟨atKey_put_same ht.isMap hk _ _, has_put_same ht.isMap hk _⟩
    · have hne : kl t ≠ kl s := fun e => hst (kl_inj e)
      have hd : decide (t = s) = false := by simp [hst]
      rw [hd, Bool.false_or]
      exact ⟨(atKey_put_other hne _ _).trans (h2 t hts).1, (has_put_other hne _).trans (h2 t hts).2⟩
  · rw [show Lit.string s.data.toList = kl s from rfl, size_put ht, (h2 s hs).2, h3]
theorem Known.del {w : World} {b n : Nat} {T : ByteArray → Bool} {sz : Nat} (h : Known w b n T sz) {s : ByteArray} (hs : s.size ≤ maxLen) (hT : T s = true) (ty : TypeId) : ∃ w', (Builtin.delete_ #[24, 9] ty #[.map (some b), .string s]).run Yba.prog w = .ok (.tuple #[]) w' ∧
    Known w' b n (fun t => !decide (t = s) && T t) (sz - 1) ∧ w.grownBy w' (some b) := by
  obtain ⟨D, h1, h2, h3⟩ := h
  have ht := h1.tidy law9
  obtain ⟨w', hrun, h4, h5⟩ := h1.drop law9 Yba.underlying24 (WideMaps.keyOf_string_mk Yba.underlying9 hs) ty
  refine ⟨w', hrun, ⟨_, h4, fun t hts => ?_, ?_⟩, h5.grown⟩
  · show _ = DataW.lit (.bool (!decide (t = s) && T t)) ∧ _ = (!decide (t = s) && T t)
    by_cases hst : t = s
    · subst hst
      have hd : decide (t = t) = true := by simp
      rw [hd, Bool.not_true, Bool.false_and]
      exact ⟨atKey_del_same _, has_del_same⟩
    · have hne : kl t ≠ kl s := fun e => hst (kl_inj e)
      have hd : decide (t = s) = false := by simp [hst]
      rw [hd, Bool.not_false, Bool.true_and]
      exact ⟨(atKey_del_other hne _).trans (h2 t hts).1, (has_del_other hne).trans (h2 t hts).2⟩
  · have h6 := size_del (k := kl s) ht
    rw [(h2 s hs).2, hT] at h6
    rw [show Lit.string s.data.toList = kl s from rfl]
    simp at h6
    omega
end Go.Proofs.Ybulkdzgm
