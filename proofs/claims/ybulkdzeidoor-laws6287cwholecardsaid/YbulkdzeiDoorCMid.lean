/-
  THE STATE IN THE MIDST OF add: deadline and live have one group more than tree and sums.
-/
import Derived.Test.YbulkdzeiDoorCEnd
import Derived.Test.YbulkdzeiDoorCIns2
namespace Go.Proofs.YbulkdzeiDoor.C
open Go Go.RowKit

theorem info24' : (Ybad.prog.info? 24).map (fun i => (i.zero, i.size, i.bytes)) = some (some (.float .f64 0), 1, 8) := by kernel_rfl
theorem info3' : (Ybad.prog.info? 3).map (fun i => (i.zero, i.size, i.bytes)) = some (some (.int .i64 0), 1, 8) := by kernel_rfl
theorem info73' : (Ybad.prog.info? 73).map (fun i => (i.zero, i.size, i.bytes)) = some (some (.agg #[.slice none 0 0, .float .f64 0, .bool false]), 3, 40) := by kernel_rfl

theorem fl_snoc (D : Nat → Int) (n : Nat) (d : Int) : fl D n ++ [.float .f64 (fi d)] = fl (upd D n d) (n + 1) := by
  unfold fl
  rw [List.range_succ, List.map_append]
  congr 1
  · apply List.map_congr_left
    intro i hi
    rw [upd_ne _ _ (by have := List.mem_range.1 hi; omega)]
  · simp [upd_at]
theorem nl_snoc (F : Nat → Nat) (n x : Nat) : nl F n ++ [.int .i64 (x : Int)] = nl (upd F n x) (n + 1) := by
  unfold nl
  rw [List.range_succ, List.map_append]
  congr 1
  · apply List.map_congr_left
    intro i hi
    rw [upd_ne _ _ (by have := List.mem_range.1 hi; omega)]
  · simp [upd_at]
theorem news_of {w : World} {h : Nat} {c : Array Value} {t : TypeId} (hh : w.heap[h]? = some (.cells c t (0, 0))) : ∀ j u, c.toList[j]? = some u → w.cell? ((⟨h, 0, none⟩ : Addr).add j) = some u := fun j u hu => by
  have hadd : (⟨h, 0, none⟩ : Addr).add j = ⟨h, j, none⟩ := by unfold Addr.add; split <;> simp_all
  rw [hadd]
  exact cell_heap hh (by simpa using hu)

/-- Where the row lies behind an append. -/
def At (w : World) (v v' : Value) : Prop := v'.ownBlock = v.ownBlock ∨ ∃ k, v'.ownBlock = some k ∧ w.heap.size ≤ k

theorem app24 (w : World) (base n h : Nat) (D : Nat → Int) (d : Int) (v : Value) (hn : n ≤ 100000) (ho : w.ownsRow base 24 1 v n (fl D n)) (hb : base ≤ w.heap.size) (hh : w.heap[h]? = some (.cells #[.float .f64 (fi d)] 24 (0, 0))) :
    ∃ v' w', (Builtin.append_ #[22, 22] 22 #[v, .slice (some ⟨h, 0, none⟩) 1 1]).run Ybad.prog w = .ok v' w' ∧ w'.ownsRow base 24 1 v' (n + 1) (fl (upd D n d) (n + 1)) ∧ w.grownBy w' v.ownBlock ∧ At w v v' := by
  obtain ⟨i0, hi, hz0, hz1, hz2⟩ := info_parts info24'
  obtain ⟨v', w', h1, h2, h3, _, h5⟩ := run_append_own_at (P := Ybad.prog) (w := w) base 22 22 24 i0 _ 1 8 Ybad.underlying22 hi hz0 hz1 hz2 rfl (by omega) v n (fl D n) ho ⟨h, 0, none⟩ 1 1 [.float .f64 (fi d)] rfl (fun j u hu => news_of hh j u (by simpa using hu)) (by simp [Value.oneCell']) (by unfold maxLen; omega) (by omega) hb
  rw [fl_snoc] at h2
  exact ⟨v', w', h1, h2, h3, by rcases h5 with h | h; exact .inl h; exact .inr ⟨_, h, Nat.le_refl _⟩⟩
theorem app3 (w : World) (base n h x : Nat) (F : Nat → Nat) (v : Value) (hn : n ≤ 100000) (ho : w.ownsRow base 3 1 v n (nl F n)) (hb : base ≤ w.heap.size) (hh : w.heap[h]? = some (.cells #[.int .i64 (x : Int)] 3 (0, 0))) :
    ∃ v' w', (Builtin.append_ #[37, 37] 37 #[v, .slice (some ⟨h, 0, none⟩) 1 1]).run Ybad.prog w = .ok v' w' ∧ w'.ownsRow base 3 1 v' (n + 1) (nl (upd F n x) (n + 1)) ∧ w.grownBy w' v.ownBlock ∧ At w v v' := by
  obtain ⟨i0, hi, hz0, hz1, hz2⟩ := info_parts info3'
  obtain ⟨v', w', h1, h2, h3, _, h5⟩ := run_append_own_at (P := Ybad.prog) (w := w) base 37 37 3 i0 _ 1 8 Ybad.underlying37 hi hz0 hz1 hz2 rfl (by omega) v n (nl F n) ho ⟨h, 0, none⟩ 1 1 [.int .i64 (x : Int)] rfl (fun j u hu => news_of hh j u (by simpa using hu)) (by simp [Value.oneCell']) (by unfold maxLen; omega) (by omega) hb
  rw [nl_snoc] at h2
  exact ⟨v', w', h1, h2, h3, by rcases h5 with h | h; exact .inl h; exact .inr ⟨_, h, Nat.le_refl _⟩⟩
theorem app73 (w : World) (base n h : Nat) (xs : List Value) (a b c : Value) (v : Value) (hn : n ≤ 100000) (ho : w.ownsRow base 73 3 v n xs) (hb : base ≤ w.heap.size) (hh : w.heap[h]? = some (.cells #[a, b, c] 73 (0, 0))) (h1 : a.oneCell' = true ∧ b.oneCell' = true ∧ c.oneCell' = true) :
    ∃ v' w', (Builtin.append_ #[50, 50] 50 #[v, .slice (some ⟨h, 0, none⟩) 1 1]).run Ybad.prog w = .ok v' w' ∧ w'.ownsRow base 73 3 v' (n + 1) (xs ++ [a, b, c]) ∧ w.grownBy w' v.ownBlock ∧ At w v v' := by
  obtain ⟨i0, hi, hz0, hz1, hz2⟩ := info_parts info73'
  obtain ⟨v', w', h1, h2, h3, _, h5⟩ := run_append_own_at (P := Ybad.prog) (w := w) base 50 50 73 i0 _ 3 40 Ybad.underlying50 hi hz0 hz1 hz2 rfl (by omega) v n xs ho ⟨h, 0, none⟩ 1 1 [a, b, c] rfl (fun j u hu => news_of hh j u (by simpa using hu)) (by simp [h1]) (by unfold maxLen; omega) (by omega) hb
  exact ⟨v', w', h1, h2, h3, by rcases h5 with h | h; exact .inl h; exact .inr ⟨_, h, Nat.le_refl _⟩⟩

theorem FRow.rekey {w : World} {K K' : Nat → Prop} {v : Value} {n : Nat} (h : FRow w K v n) (hk : ∀ b, b < w.heap.size → K' b → K b) : FRow w K' v n := by
  rcases h with h | ⟨b, cap, h1, h2, h3, h4, h5⟩
  · exact .inl h
  · exact .inr ⟨b, cap, h1, h2, h3, fun hb => h4 (hk b h5.lt hb), h5⟩

structure GM (w : World) (K0 : Nat → Prop) (base g n n1 : Nat) (Bd : Nat → Nat) (D : Nat → Int) (L T : Nat → Nat) (tot fst : Nat) (vd vl vt vs vm : Value) (pv : Nat → Value) (pm : Nat → Nat) (km : Nat) : Prop where
  hg : w.heap[g]? = some (.cells #[vd, vl, vt, vs, vm, .int .i64 (tot : Int), .int .i64 (fst : Int)] 52 (0, 0))
  rd : w.ownsRow base 24 1 vd n1 (fl D n1)
  rl : w.ownsRow base 3 1 vl n1 (nl L n1)
  rt : w.ownsRow base 3 1 vt n (nl T n)
  rs : ∃ xs, w.ownsRow base 73 3 vs n xs ∧ ∀ i, i < n → ∃ x p, xs[i * 3]? = some (pv i) ∧ xs[i * 3 + 1]? = some (.float .f64 x) ∧ xs[i * 3 + 2]? = some (.bool p)
  rp : ∀ i, i < n → FRow w (KS K0 g vd vl vt vs) (pv i) (pm i) ∧ pm i ≤ Bd i
  rm : FRow w (KS K0 g vd vl vt vs) vm km
  lt : ∀ b, vl.ownBlock = some b → vt.ownBlock ≠ some b
  nk : ∀ b, K0 b → b ≠ g ∧ vd.ownBlock ≠ some b ∧ vl.ownBlock ≠ some b ∧ vt.ownBlock ≠ some b ∧ vs.ownBlock ≠ some b
  bg : base ≤ g
  kl : ∀ b, K0 b → b < w.heap.size
  k0 : ∀ b, b < base → K0 b
  kb : base ≤ w.heap.size

section
variable {w w' : World} {K0 : Nat → Prop} {base g n n1 tot fst : Nat} {Bd : Nat → Nat} {D : Nat → Int} {L T : Nat → Nat} {vd vl vt vs vm : Value} {pv : Nat → Value} {pm : Nat → Nat} {km : Nat}
theorem GM.gt (h : GM w K0 base g n n Bd D L T tot fst vd vl vt vs vm pv pm km) : GT w K0 base g n Bd D L T tot fst vd vl vt vs vm pv pm :=
  { hg := h.hg, rd := h.rd, rl := h.rl, rt := h.rt, rs := h.rs, rp := h.rp, rm := ⟨_, h.rm⟩, lt := h.lt, nk := h.nk, bg := h.bg, kl := h.kl, k0 := h.k0, kb := h.kb }
theorem GM.kall (h : GM w K0 base g n n1 Bd D L T tot fst vd vl vt vs vm pv pm km) : ∀ b, KS K0 g vd vl vt vs b → b < w.heap.size := fun b hb => by
  rcases hb with hb | rfl | hb | hb | hb | hb
  · exact h.kl b hb
  · exact lt_of_heap h.hg
  · exact (h.rd.lt b hb).2
  · exact (h.rl.lt b hb).2
  · exact (h.rt.lt b hb).2
  · obtain ⟨xs, hx, _⟩ := h.rs; exact (hx.lt b hb).2
/-- Behind a call that only reckons with floats. -/
theorem GM.chg {K : Nat → Prop} (h : GM w K0 base g n n1 Bd D L T tot fst vd vl vt vs vm pv pm km) (hc : KChg K w w') (hK : ∀ b, KS K0 g vd vl vt vs b → K b) (hK2 : ∀ b, K b → ¬ KS K0 g vd vl vt vs b → ∀ cap, FB w b cap → FB w' b cap) : GM w' K0 base g n n1 Bd D L T tot fst vd vl vt vs vm pv pm km := by
  have hf : ∀ {v : Value} {k : Nat}, FRow w (KS K0 g vd vl vt vs) v k → FRow w' (KS K0 g vd vl vt vs) v k := fun {v k} hr => by
    rcases hr with h1 | ⟨b, cap, h1, h2, h3, h4, h5⟩
    · exact .inl h1
    · refine .inr ⟨b, cap, h1, h2, h3, h4, ?_⟩
      by_cases hb : K b
      · exact hK2 b hb h4 cap h5
      · exact hc.junk b cap hb h5
  obtain ⟨xs, hx1, hx2⟩ := h.rs
  exact
    { hg := (hc.keep g (hK g (.inr (.inl rfl)))).trans h.hg
      rd := own_heap h.rd (fun b hb => hc.keep b (hK b (.inr (.inr (.inl hb)))))
      rl := own_heap h.rl (fun b hb => hc.keep b (hK b (.inr (.inr (.inr (.inl hb))))))
      rt := own_heap h.rt (fun b hb => hc.keep b (hK b (.inr (.inr (.inr (.inr (.inl hb)))))))
      rs := ⟨xs, own_heap hx1 (fun b hb => hc.keep b (hK b (.inr (.inr (.inr (.inr (.inr hb))))))), hx2⟩
      rp := fun i hi => ⟨hf (h.rp i hi).1, (h.rp i hi).2⟩
      rm := hf h.rm, lt := h.lt, nk := h.nk, bg := h.bg
      kl := fun b hb => Nat.lt_of_lt_of_le (h.kl b hb) hc.size, k0 := h.k0, kb := Nat.le_trans h.kb hc.size }
theorem GM.chg0 (h : GM w K0 base g n n1 Bd D L T tot fst vd vl vt vs vm pv pm km) (hc : KChg (KS K0 g vd vl vt vs) w w') : GM w' K0 base g n n1 Bd D L T tot fst vd vl vt vs vm pv pm km := h.chg hc (fun _ h => h) (fun _ h1 h2 => absurd h1 h2)
theorem GM.below (h : GM w K0 base g n n1 Bd D L T tot fst vd vl vt vs vm pv pm km) (hb : Below w.heap.size w w') : GM w' K0 base g n n1 Bd D L T tot fst vd vl vt vs vm pv pm km := h.chg0 (KChg.of_below h.kall hb)
/-- g's cells written: terms, total. -/
theorem GM.turn (h : GM w K0 base g n n1 Bd D L T tot fst vd vl vt vs vm pv pm km) {vm' : Value} {tot' km' : Nat} (hs : w.heap.size ≤ w'.heap.size) (hk : ∀ b, b ≠ g → b < w.heap.size → w'.heap[b]? = w.heap[b]?)
    (hg' : w'.heap[g]? = some (.cells #[vd, vl, vt, vs, vm', .int .i64 (tot' : Int), .int .i64 (fst : Int)] 52 (0, 0))) (hm : FRow w (KS K0 g vd vl vt vs) vm' km') : GM w' K0 base g n n1 Bd D L T tot' fst vd vl vt vs vm' pv pm km' := by
  have ho : ∀ {e : TypeId} {size m : Nat} {v : Value} {xs : List Value}, w.ownsRow base e size v m xs → (52 : TypeId) ≠ e → w'.ownsRow base e size v m xs := fun {e size m v xs} hr he =>
    own_heap hr (fun b hb => hk b (fun e' => own_ne hr h.hg he (e' ▸ hb)) (hr.lt b hb).2)
  have hf : ∀ {v : Value} {k : Nat}, FRow w (KS K0 g vd vl vt vs) v k → FRow w' (KS K0 g vd vl vt vs) v k := fun {v k} hr => by
    rcases hr with h1 | ⟨b, cap, h1, h2, h3, h4, c, h5, h6⟩
    · exact .inl h1
    · exact .inr ⟨b, cap, h1, h2, h3, h4, c, (hk b (fun e => h4 (.inr (.inl e))) (lt_of_heap h5)).trans h5, h6⟩
  obtain ⟨xs, hx1, hx2⟩ := h.rs
  exact
    { hg := hg', rd := ho h.rd (by decide), rl := ho h.rl (by decide), rt := ho h.rt (by decide), rs := ⟨xs, ho hx1 (by decide), hx2⟩
      rp := fun i hi => ⟨hf (h.rp i hi).1, (h.rp i hi).2⟩, rm := hf hm, lt := h.lt, nk := h.nk, bg := h.bg
      kl := fun b hb => Nat.lt_of_lt_of_le (h.kl b hb) hs, k0 := h.k0, kb := Nat.le_trans h.kb hs }
theorem GM.sumAt (h : GM w K0 base g n n1 Bd D L T tot fst vd vl vt vs vm pv pm km) {j : Nat} (hj : j < n) : ∃ sb cap c x p, vs = .slice (some ⟨sb, 0, none⟩) n cap ∧ w.heap[sb]? = some (.cells c 73 (0, 0)) ∧ c[j * 3]? = some (pv j) ∧ c[j * 3 + 1]? = some (.float .f64 x) ∧ c[j * 3 + 2]? = some (.bool p) := by
  obtain ⟨xs, hx1, hx2⟩ := h.rs
  obtain ⟨x, p, e0, e1, e2⟩ := hx2 j hj
  obtain ⟨b, cc, cur, h1, -, -, h4, h5, -⟩ := own_cell hx1 e0
  obtain ⟨b1, cc1, cur1, g1, -, -, g4, g5, -⟩ := own_cell hx1 e1
  obtain ⟨b2, cc2, cur2, f1, -, -, f4, f5, -⟩ := own_cell hx1 e2
  rw [h1] at g1 f1
  cases g1
  cases f1
  rw [h4] at g4 f4
  cases g4
  cases f4
  exact ⟨b, cc, cur, x, p, h1, h4, h5, g5, f5⟩
end
end Go.Proofs.YbulkdzeiDoor.C
