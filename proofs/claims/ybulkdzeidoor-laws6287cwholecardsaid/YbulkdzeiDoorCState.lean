/-
  THE STATE of a 'starts', and the walks of before and pass.
-/
import Derived.Test.YbulkdzeiDoorCGrow
import Derived.Maps.AppendAt
namespace Go.Proofs.YbulkdzeiDoor.C
open Go Go.RowKit
open Go.Proofs.YbulkdzeiDoor.A (fbits ffrom run_fadd addV addN run_store_float)

theorem bits_low (k : Nat) (h0 : 0 < k) (h1 : k < 9223372036854775808) : bits .and .i64 (k : Int) (-(k : Int)) = (low k : Int) := by
  have h2 : (BitVec.ofInt 64 (k : Int)).toNat = k := by
    rw [BitVec.ofInt_natCast, BitVec.toNat_ofNat]; exact Nat.mod_eq_of_lt (by omega)
  have h3 : (BitVec.ofInt 64 (-(k : Int))).toNat = 2 ^ 64 - k := by
    rw [BitVec.toNat_ofInt]
    omega
  have h4 := land_low 64 k h0 (by omega)
  have h5 := (low_pos k h0).2.1
  show IntKind.i64.wrap ((BitVec.ofInt 64 (k : Int) &&& BitVec.ofInt 64 (-(k : Int))).toNat : Int) = _
  rw [BitVec.toNat_and, h2, h3, h4, IntKind.wrap_i64]
  omega

/-- Floats and numbers in a row. -/
def fl (D : Nat → Int) (n : Nat) : List Value := (List.range n).map fun i => .float .f64 (fi (D i))
def nl (L : Nat → Nat) (n : Nat) : List Value := (List.range n).map fun i => .int .i64 (L i : Int)
theorem fl_get (D : Nat → Int) {n i : Nat} (h : i < n) : (fl D n)[i]? = some (.float .f64 (fi (D i))) := by simp [fl, h]
theorem nl_get (L : Nat → Nat) {n i : Nat} (h : i < n) : (nl L n)[i]? = some (.int .i64 (L i : Int)) := by simp [nl, h]
theorem fl_len (D : Nat → Int) (n : Nat) : (fl D n).length = n := by simp [fl]
theorem nl_len (L : Nat → Nat) (n : Nat) : (nl L n).length = n := by simp [nl]

/-- What is kept while the sums are reckoned. -/
def KS (K0 : Nat → Prop) (g : Nat) (vd vl vt vs : Value) (b : Nat) : Prop := K0 b ∨ b = g ∨ vd.ownBlock = some b ∨ vl.ownBlock = some b ∨ vt.ownBlock = some b ∨ vs.ownBlock = some b

structure GT (w : World) (K0 : Nat → Prop) (base g n : Nat) (Bd : Nat → Nat) (D : Nat → Int) (L T : Nat → Nat) (tot fst : Nat) (vd vl vt vs vm : Value) (pv : Nat → Value) (pm : Nat → Nat) : Prop where
  hg : w.heap[g]? = some (.cells #[vd, vl, vt, vs, vm, .int .i64 (tot : Int), .int .i64 (fst : Int)] 52 (0, 0))
  rd : w.ownsRow base 24 1 vd n (fl D n)
  rl : w.ownsRow base 3 1 vl n (nl L n)
  rt : w.ownsRow base 3 1 vt n (nl T n)
  rs : ∃ xs, w.ownsRow base 73 3 vs n xs ∧ ∀ i, i < n → ∃ x p, xs[i * 3]? = some (pv i) ∧ xs[i * 3 + 1]? = some (.float .f64 x) ∧ xs[i * 3 + 2]? = some (.bool p)
  rp : ∀ i, i < n → FRow w (KS K0 g vd vl vt vs) (pv i) (pm i) ∧ pm i ≤ Bd i
  rm : ∃ k, FRow w (KS K0 g vd vl vt vs) vm k
  lt : ∀ b, vl.ownBlock = some b → vt.ownBlock ≠ some b
  nk : ∀ b, K0 b → b ≠ g ∧ vd.ownBlock ≠ some b ∧ vl.ownBlock ≠ some b ∧ vt.ownBlock ≠ some b ∧ vs.ownBlock ≠ some b
  bg : base ≤ g
  kl : ∀ b, K0 b → b < w.heap.size
  k0 : ∀ b, b < base → K0 b
  kb : base ≤ w.heap.size
/-- The state between two calls: the tree is the tree of live, total its sum. -/
abbrev GS (w : World) (K0 : Nat → Prop) (base g n s : Nat) (D : Nat → Int) (L : Nat → Nat) (fst : Nat) (vd vl vt vs vm : Value) (pv : Nat → Value) (pm : Nat → Nat) : Prop :=
  GT w K0 base g n (fun i => (s + 3) * low (i + 1)) D L (fun i => node L (i + 1)) (sm L 0 n) fst vd vl vt vs vm pv pm

/-- A row that is read. -/
theorem own_form {w : World} {base n size : Nat} {e : TypeId} {v : Value} {xs : List Value} (h : w.ownsRow base e size v n xs) : ∃ a c, v = .slice a n c := by
  rcases h.2 with ⟨h1, h2⟩ | ⟨g, cap, _, h1, _⟩
  · exact ⟨none, 0, by rw [h1, h2]⟩
  · exact ⟨_, _, h1⟩
theorem own_cell {w : World} {base n size : Nat} {e : TypeId} {v x : Value} {xs : List Value} (h : w.ownsRow base e size v n xs) {j : Nat} (hx : xs[j]? = some x) : ∃ b c cur, v = .slice (some ⟨b, 0, none⟩) n c ∧ w.cell? ⟨b, j, none⟩ = some x ∧ w.frozen? ⟨b, j, none⟩ = false ∧ w.heap[b]? = some (.cells cur e (0, 0)) ∧ cur[j]? = some x ∧ base ≤ b := by
  have hj : j < n * size := by
    rw [← h.1]; exact (List.getElem?_eq_some_iff.1 hx).1
  rcases h.2 with ⟨h1, h2⟩ | ⟨g, cap, cur, h1, hb, h2, h3, h4, h5, h6⟩
  · subst h2; omega
  · have hc : cur[j]? = some x := by
      rw [← h6, List.getElem?_take, if_pos hj] at hx
      simpa using hx
    exact ⟨g, cap, cur, h1, cell_heap h2 hc, frozen_heap h2, h2, hc, hb⟩
theorem own_heap {w w' : World} {base n size : Nat} {e : TypeId} {v : Value} {xs : List Value} (h : w.ownsRow base e size v n xs) (hb : ∀ b, v.ownBlock = some b → w'.heap[b]? = w.heap[b]?) : w'.ownsRow base e size v n xs := by
  refine ⟨h.1, ?_⟩
  rcases h.2 with hn | ⟨g, cap, cur, rfl, h1, h2, rest⟩
  · exact .inl hn
  · exact .inr ⟨g, cap, cur, rfl, h1, (hb g rfl).trans h2, rest⟩
theorem own_ne {w : World} {base n size b : Nat} {e t : TypeId} {v : Value} {xs : List Value} {c : Array Value} (h : w.ownsRow base e size v n xs) (hb : w.heap[b]? = some (.cells c t (0, 0))) (ht : t ≠ e) : v.ownBlock ≠ some b := fun ho => by
  rcases h.2 with ⟨h1, _⟩ | ⟨g, cap, cur, h1, _, h2, _⟩
  · rw [h1] at ho; simp [Value.ownBlock] at ho
  · rw [h1] at ho
    simp [Value.ownBlock] at ho
    subst ho
    rw [h2] at hb
    cases hb
    exact ht rfl

section
variable {w : World} {K0 : Nat → Prop} {base g n s : Nat} {D : Nat → Int} {L : Nat → Nat} {fst : Nat} {vd vl vt vs vm : Value} {pv : Nat → Value} {pm : Nat → Nat}

attribute [local go_sem ↓] run_fadd run_fsub run_fmul
attribute [local go_sem] fbits ffrom run_store_float setCell_drewN alloc_drewN

theorem node_chain (L : Nat → Nat) (k i : Nat) (h0 : 0 < k) (h : k ≤ i) : sm L k i + node L k = sm L (k - low k) i := by
  unfold node
  have := low_pos k h0
  rw [sm_add L (k - low k) k i (by omega) h]
  omega
theorem sm_small {L : Nat → Nat} {n : Nat} (hL : ∀ i, i < n → L i ≤ 5) (hn : n ≤ 4096) (a b : Nat) (hb : b ≤ n) : sm L a b ≤ 20480 := by
  have h1 := sm_le (f := L) (M := 5) (a := a) (b := b) (fun i _ h2 => hL i (by omega))
  have h2 : 5 * (b - a) ≤ 5 * 4096 := Nat.mul_le_mul_left _ (by omega)
  omega

set_option maxRecDepth 100000 in
set_option maxHeartbeats 1000000 in
theorem before_any (i : Nat) (hi : i ≤ n) (hn : n ≤ 4096) (hL : ∀ i, i < n → L i ≤ 5) (h : GS w K0 base g n s D L fst vd vl vt vs vm pv pm) :
    Calls Ybad.prog 30 #[.pointer (some ⟨g, 0, none⟩), .int .i64 i] w fun e w' => e = .returned (.int .i64 (sm L 0 i : Int)) ∧ w' = w := by
  obtain ⟨a2, d2, hv2⟩ := own_form h.rt
  have c2 : w.cell? ⟨g, 2, none⟩ = some (.slice a2 n d2) := by rw [← hv2]; exact cell_heap h.hg rfl
  have HG := Hid.mk h
  have HV2 := Hid.mk hv2
  clear hv2 h
  have HL := Hid.mk hL
  clear hL
  go_enter Ybad.func30, Ybad.ntmps30
  go_wp2_with fail
  go_loopw [5, 6] (fun a kk wr => ∃ k : Nat, k ≤ i ∧ kk = .int .i64 (k : Int) ∧ a = .int .i64 (sm L k i : Int) ∧ wr = w) (fun _ kk _ => (intOf kk).toNat)
  case atStart => exact ⟨i, by omega, rfl, by rw [sm_self L i i (by omega)]; rfl, rfl⟩
  case round =>
    obtain ⟨k, hk, rfl, rfl, hw⟩ := hrel
    rw [hw]
    clear hw
    by_cases hk0 : 0 < k
    · obtain ⟨b, cc, cur, h1, h2, -⟩ := own_cell HG.out.rt (nl_get (fun i => node L (i + 1)) (show k - 1 < n by omega))
      rw [HV2.out] at h1
      cases h1
      have hkk : k - 1 + 1 = k := by omega
      rw [hkk] at h2
      have hlow := bits_low k hk0 (by omega)
      obtain ⟨hl0, hl1, -⟩ := low_pos k hk0
      have hch := node_chain L k i hk0 hk
      have b1 := sm_small HL.out hn k i hi
      have b2 := sm_small HL.out hn (k - low k) i hi
      obtain ⟨S, hS⟩ : ∃ S, sm L k i = S := ⟨_, rfl⟩
      obtain ⟨N, hN⟩ : ∃ N, node L k = N := ⟨_, rfl⟩
      obtain ⟨l, hl⟩ : ∃ l, low k = l := ⟨_, rfl⟩
      rw [hS] at hch b1 ⊢
      rw [hN] at h2 hch
      rw [hl] at hlow hl0 hl1 hch b2
      rw [← hch] at b2
      have HCH := Hid.mk hch
      have k0 : (0 : Int) ≤ (k : Int) - 1 := by omega
      have k1 : (k : Int) - 1 < (n : Int) := by omega
      have k2 : ((k : Int) - 1).toNat = k - 1 := by omega
      have k3 : (1 : Int) ≤ (k : Int) := by omega
      have k4 : (0 : Int) < (k : Int) := by omega
      clear hS hN hl hch hkk
      go_wp2_with fail
      go_roundw
      case rel => exact ⟨k - l, by omega, by go_num, by rw [← HCH.out]; go_num, by first | rfl | trivial⟩
      case measure => simp [intOf]; omega
    · obtain rfl : k = 0 := by omega
      go_wp2_with fail
      go_ret
      exact ⟨rfl, rfl⟩

/-- The blocks of K0 are kept. -/
structure Keep (K0 : Nat → Prop) (w w' : World) : Prop where
  os : w'.os = w.os
  tape : w'.tape = w.tape
  output : w'.output = w.output
  size : w.heap.size ≤ w'.heap.size
  keep : ∀ b, K0 b → w'.heap[b]? = w.heap[b]?
theorem Keep.refl (K0 : Nat → Prop) (w : World) : Keep K0 w w := ⟨rfl, rfl, rfl, Nat.le_refl _, fun _ _ => rfl⟩
theorem Keep.trans {K0 : Nat → Prop} {a b c : World} (h : Keep K0 a b) (k : Keep K0 b c) : Keep K0 a c :=
  ⟨k.os.trans h.os, k.tape.trans h.tape, k.output.trans h.output, Nat.le_trans h.size k.size, fun x hx => (k.keep x hx).trans (h.keep x hx)⟩
theorem Keep.of_below {K0 : Nat → Prop} {w w' : World} (hK : ∀ b, K0 b → b < w.heap.size) (h : Below w.heap.size w w') : Keep K0 w w' := ⟨h.os, h.tape, h.output, h.size, fun b hb => h.block b (hK b hb)⟩
theorem Keep.of_k {K K0 : Nat → Prop} {w w' : World} (h : KChg K w w') (hs : ∀ b, K0 b → K b) : Keep K0 w w' := ⟨h.os, h.tape, h.output, h.size, fun b hb => h.keep b (hs b hb)⟩
theorem Keep.below {K0 : Nat → Prop} {w w' : World} {B : Nat} (h : Keep K0 w w') (hB : ∀ b, b < B → K0 b) : Below B w w' := ⟨h.os, h.tape, h.output, h.size, fun b hb => h.keep b (hB b hb)⟩
theorem Keep.set {K0 : Nat → Prop} {w : World} {b o : Nat} (hb : ¬ K0 b) (v : Value) : Keep K0 w (w.setCell ⟨b, o, none⟩ v) := ⟨rfl, rfl, rfl, by simp [World.setCell], fun k hk => Below.heap_setCell _ _ _ _ (fun e => hb (by have e' : k = b := e; rw [← e']; exact hk))⟩

/-- g's seven cells. -/
def gc (vd vl vt vs vm : Value) (tot fst : Int) : Array Value := #[vd, vl, vt, vs, vm, .int .i64 tot, .int .i64 fst]

/-- g's own cells turned (total, first): nothing else. -/
theorem GT.turn {w' : World} {Bd : Nat → Nat} {T : Nat → Nat} {tot tot' fst' : Nat} (h : GT w K0 base g n Bd D L T tot fst vd vl vt vs vm pv pm) (hs : w.heap.size ≤ w'.heap.size) (hk : ∀ b, b ≠ g → b < w.heap.size → w'.heap[b]? = w.heap[b]?)
    (hg' : w'.heap[g]? = some (.cells #[vd, vl, vt, vs, vm, .int .i64 (tot' : Int), .int .i64 (fst' : Int)] 52 (0, 0))) : GT w' K0 base g n Bd D L T tot' fst' vd vl vt vs vm pv pm := by
  have ho : ∀ {e : TypeId} {size : Nat} {v : Value} {xs : List Value}, w.ownsRow base e size v n xs → (52 : TypeId) ≠ e → w'.ownsRow base e size v n xs := fun {e size v xs} hr he =>
    own_heap hr (fun b hb => hk b (fun e' => own_ne hr h.hg he (e' ▸ hb)) (hr.lt b hb).2)
  have hf : ∀ {v : Value} {k : Nat}, FRow w (KS K0 g vd vl vt vs) v k → FRow w' (KS K0 g vd vl vt vs) v k := fun {v k} hr => by
    rcases hr with h1 | ⟨b, cap, h1, h2, h3, h4, c, h5, h6⟩
    · exact .inl h1
    · exact .inr ⟨b, cap, h1, h2, h3, h4, c, (hk b (fun e => h4 (.inr (.inl e))) (lt_of_heap h5)).trans h5, h6⟩
  obtain ⟨xs, hx1, hx2⟩ := h.rs
  obtain ⟨k, hm⟩ := h.rm
  exact
    { hg := hg', rd := ho h.rd (by decide), rl := ho h.rl (by decide), rt := ho h.rt (by decide), rs := ⟨xs, ho hx1 (by decide), hx2⟩
      rp := fun i hi => ⟨hf (h.rp i hi).1, (h.rp i hi).2⟩, rm := ⟨k, hf hm⟩, lt := h.lt, nk := h.nk, bg := h.bg
      kl := fun b hb => Nat.lt_of_lt_of_le (h.kl b hb) hs, k0 := h.k0, kb := Nat.le_trans h.kb hs }
theorem GT.drewN {Bd : Nat → Nat} {T : Nat → Nat} {tot : Nat} (h : GT w K0 base g n Bd D L T tot fst vd vl vt vs vm pv pm) (m : Nat) : GT (w.drewN m) K0 base g n Bd D L T tot fst vd vl vt vs vm pv pm := h.turn (Nat.le_refl _) (fun _ _ _ => rfl) h.hg
theorem GT.of_below {w' : World} {Bd : Nat → Nat} {T : Nat → Nat} {tot : Nat} (h : GT w K0 base g n Bd D L T tot fst vd vl vt vs vm pv pm) (hb : Below w.heap.size w w') : GT w' K0 base g n Bd D L T tot fst vd vl vt vs vm pv pm := h.turn hb.size (fun b _ hl => hb.block b hl) (heap_below hb h.hg)

/-- Where 'first' comes to. -/
def Adv (D : Nat → Int) (n : Nat) (p : Int) (f f' : Nat) : Prop := f ≤ f' ∧ (∀ j, f ≤ j → j < f' → j < n ∧ D j ≤ p) ∧ (f' < n → p < D f')
theorem Adv.one {p : Int} {f a b : Nat} (h : Adv D n p f a) (k : Adv D n p f b) : a = b := by
  rcases Nat.lt_trichotomy a b with hab | hab | hab
  · have := k.2.1 a h.1 hab
    have := h.2.2 this.1
    omega
  · exact hab
  · have := h.2.1 b k.1 hab
    have := k.2.2 this.1
    omega

/-- How far 'first' may still go. -/
def m6 (g n : Nat) (w : World) : Nat := n - (intOf ((w.cell? ⟨g, 6, none⟩).getD undef)).toNat
theorem m6_at {w : World} {g n f : Nat} (h : w.cell? ⟨g, 6, none⟩ = some (.int .i64 (f : Int))) : m6 g n w = n - f := by unfold m6; rw [h]; simp [intOf]
theorem leq_fi {a b : Int} (ha : a.natAbs < 9007199254740992) (hb : b.natAbs < 9007199254740992) : FloatKind.f64.format.order (fi a) (fi b) = some (compare a b) := fi_ord ha hb

set_option maxRecDepth 100000 in
set_option maxHeartbeats 1000000 in
theorem pass_any (p : Int) (hp : p.natAbs < 100000) (hn : n ≤ 4096) (hf : fst ≤ n) (hD : ∀ i, i < n → (D i).natAbs < 100000) (h : GS w K0 base g n s D L fst vd vl vt vs vm pv pm) :
    Calls Ybad.prog 12 #[.pointer (some ⟨g, 0, none⟩), .float .f64 (fi p)] w fun e w' => e = .returned (.tuple #[]) ∧ ∃ f', f' ≤ n ∧ Adv D n p fst f' ∧ GS w' K0 base g n s D L f' vd vl vt vs vm pv pm ∧ Keep K0 w w' := by
  obtain ⟨a0, d0, hv0⟩ := own_form h.rd
  have HG := Hid.mk h
  have HV0 := Hid.mk hv0
  have HD := Hid.mk hD
  clear h hv0 hD
  go_enter Ybad.func12, Ybad.ntmps12
  go_wp2_with fail
  go_loopw [] (fun wr => ∃ f' : Nat, f' ≤ n ∧ fst ≤ f' ∧ (∀ j, fst ≤ j → j < f' → j < n ∧ D j ≤ p) ∧ GS wr K0 base g n s D L f' vd vl vt vs vm pv pm ∧ Keep K0 w wr) (fun wr => m6 g n wr)
  case atStart => exact ⟨fst, hf, Nat.le_refl _, fun j h1 h2 => by omega, HG.out, Keep.refl _ _⟩
  case round =>
    obtain ⟨f', hf1, hf2, hall, hgs, hkp⟩ := hrel
    have c0 : wr.cell? ⟨g, 0, none⟩ = some (.slice a0 n d0) := by rw [← HV0.out]; exact cell_heap hgs.hg rfl
    have c6 : wr.cell? ⟨g, 6, none⟩ = some (.int .i64 (f' : Int)) := cell_heap hgs.hg rfl
    have hmw := m6_at (n := n) c6
    have f6 := frozen_heap (o := 6) hgs.hg
    have HGS := Hid.mk hgs
    have HKP := Hid.mk hkp
    have HALL := Hid.mk hall
    have hng : ¬ K0 g := fun hk => (hgs.nk g hk).1 rfl
    clear hgs hkp hall
    have f0 : (0 : Int) ≤ (f' : Int) := by omega
    by_cases hlt : f' < n
    · obtain ⟨b, cc, cur, h1, h2, -⟩ := own_cell HGS.out.rd (fl_get D hlt)
      rw [HV0.out] at h1
      cases h1
      have f1 : (f' : Int) < (n : Int) := by omega
      have hw1 : IntKind.i64.wrap ((f' : Int) + 1) = (f' : Int) + 1 := by rw [IntKind.wrap_i64]; omega
      have hDb := HD.out f' hlt
      have hord := leq_fi (a := D f') (b := p) (by omega) (by omega)
      have hnext : D f' ≤ p → ∀ m, (∃ f'' : Nat, f'' ≤ n ∧ fst ≤ f'' ∧ (∀ j, fst ≤ j → j < f'' → j < n ∧ D j ≤ p) ∧ GS ((wr.setCell ⟨g, 6, none⟩ (.int .i64 ((f' : Int) + 1))).drewN m) K0 base g n s D L f'' vd vl vt vs vm pv pm ∧ Keep K0 w ((wr.setCell ⟨g, 6, none⟩ (.int .i64 ((f' : Int) + 1))).drewN m)) ∧
          m6 g n ((wr.setCell ⟨g, 6, none⟩ (.int .i64 ((f' : Int) + 1))).drewN m) < m6 g n wr := fun hle m => by
        have hset := heap_setCell_same (o := 6) HGS.out.hg (.int .i64 ((f' : Int) + 1))
        refine ⟨⟨f' + 1, by omega, by omega, fun j h1 h2 => ?_, ?_, ?_⟩, ?_⟩
        · by_cases hj : j = f'
          · subst hj; exact ⟨hlt, hle⟩
          · exact HALL.out j h1 (by omega)
        · exact (HGS.out.turn (fst' := f' + 1) (by simp [World.setCell]) (fun b' hb _ => Below.heap_setCell _ _ _ _ hb) hset).drewN m
        · exact (HKP.out.trans (Keep.set hng _)).trans ⟨rfl, rfl, rfl, Nat.le_refl _, fun _ _ => rfl⟩
        · have hc : ((wr.setCell ⟨g, 6, none⟩ (.int .i64 ((f' : Int) + 1))).drewN m).cell? ⟨g, 6, none⟩ = some (.int .i64 ((f' + 1 : Nat) : Int)) := cell_heap (w := (wr.setCell ⟨g, 6, none⟩ (.int .i64 ((f' : Int) + 1))).drewN m) hset rfl
          rw [m6_at hc, hmw]
          omega
      cases ho : compare (D f') p with
      | lt =>
        have hle : D f' ≤ p := by have := Int.compare_eq_lt.1 ho; omega
        rw [ho] at hord
        have HN := Hid.mk (hnext hle)
        have c0' : ∀ m, (wr.drewN m).cell? ⟨g, 6, none⟩ = some (.int .i64 (f' : Int)) := fun _ => c6
        clear hnext ho hmw
        go_wp2_with fail
        go_quiet (fail)
        go_wp2_with fail
        go_roundw
        case rel => exact (HN.out _).1
        case measure => exact (HN.out _).2
      | eq =>
        have hle : D f' ≤ p := by have := Int.compare_eq_eq.1 ho; omega
        rw [ho] at hord
        have HN := Hid.mk (hnext hle)
        clear hnext ho hmw
        go_wp2_with fail
        go_quiet (fail)
        go_wp2_with fail
        go_roundw
        case rel => exact (HN.out _).1
        case measure => exact (HN.out _).2
      | gt =>
        have hgt : p < D f' := Int.compare_eq_gt.1 ho
        rw [ho] at hord
        clear hnext ho hmw
        go_wp2_with fail
        go_quiet (fail)
        go_wp2_with fail
        go_end0
        exact ⟨rfl, f', hf1, ⟨hf2, HALL.out, fun _ => hgt⟩, HGS.out.drewN _, HKP.out.trans ⟨rfl, rfl, rfl, Nat.le_refl _, fun _ _ => rfl⟩⟩
    · have hnl : ¬ ((f' : Int) < (n : Int)) := by omega
      have hnd : decide ((f' : Int) < (n : Int)) = false := by simp; omega
      clear hmw
      go_wp2_with fail
      go_quiet (fail)
      go_wp2_with fail
      go_end0
      exact ⟨rfl, f', hf1, ⟨hf2, HALL.out, fun h => absurd h hlt⟩, HGS.out.drewN _, HKP.out.trans ⟨rfl, rfl, rfl, Nat.le_refl _, fun _ _ => rfl⟩⟩
end
end Go.Proofs.YbulkdzeiDoor.C
