/-
  THE WALKS of forgetLocked and zzs6291bpick.
-/
import Derived.Test.YbulkdzgmName
namespace Go.Proofs.Ybulkdzgm
open Go Go.RowKit

/-- What forgetLocked leaves of an address that is not named. -/
def Forgot (D mb n sz : Nat) (T : ByteArray → Bool) (s : ByteArray) (l : Int) (Dc : Array Value) (w w' : World) : Prop :=
  w'.heap[D]? = some (.cells (Dc.setIfInBounds 5 (.int .i64 (l - 1))) 38 (0, 0)) ∧ Known w' mb n (fun t => !decide (t = s) && T t) (sz - 1) ∧ Chg (fun b => b = D ∨ b = mb) w w'

set_option maxRecDepth 100000 in
set_option maxHeartbeats 1000000 in
theorem forget_any (D mb n sz pb : Nat) (T : ByteArray → Bool) (s : ByteArray) (l : Int) (Dc pc : Array Value) (w : World) (hD : w.heap[D]? = some (.cells Dc 38 (0, 0))) (h4 : Dc[4]? = some (.map (some mb))) (h5 : Dc[5]? = some (.int .i64 l)) (hl0 : 1 ≤ l) (hl1 : l ≤ 1000)
    (hK : Known w mb n T sz) (hs : s.size ≤ maxLen) (hT : T s = true) (hp : w.heap[pb]? = some (.cells pc 49 (0, 0))) (hp0 : pc[0]? = some (.string s)) (hp8 : pc[8]? = some (.bool false)) :
    Calls Yba.prog 21 #[.pointer (some ⟨D, 0, none⟩), .pointer (some ⟨pb, 0, none⟩)] w fun e w' => e = .returned (.tuple #[]) ∧ Forgot D mb n sz T s l Dc w w' := by
  have c1 := cell_heap hD h4
  have c2 := cell_heap hp hp0
  obtain ⟨w1, hrun, hK1, hg1⟩ := (hK.kept (w' := w.drew) rfl).del hs hT 0
  have hmD : some D ≠ some mb := fun e => by
    obtain ⟨_, ⟨_, _, h, _⟩, _⟩ := hK
    cases e
    rw [hD] at h; cases h
  have hmp : some pb ≠ some mb := fun e => by
    obtain ⟨_, ⟨_, _, h, _⟩, _⟩ := hK
    cases e
    rw [hp] at h; cases h
  have hD1 : w1.heap[D]? = some (.cells Dc 38 (0, 0)) := (hg1.block D (lt_of_heap hD) hmD).trans hD
  have hp1 : w1.heap[pb]? = some (.cells pc 49 (0, 0)) := (hg1.block pb (lt_of_heap hp) hmp).trans hp
  have c3 := cell_heap hp1 hp8
  have c4 := cell_heap hD1 h5
  have c5 := frozen_heap (o := 5) hD1
  have hwl : IntKind.i64.wrap (l - 1) = l - 1 := by rw [IntKind.wrap_i64]; omega
  have HF : Hid (Forgot D mb n sz T s l Dc w (w1.setCell ⟨D, 5, none⟩ (.int .i64 (l - 1)))) := by
    refine ⟨heap_setCell_same hD1 _, hK1.kept (Below.heap_setCell _ _ _ _ (fun e => hmD (by rw [e]))), ⟨?_, fun b hb hpb => ?_, fun B hB hpb => ?_⟩⟩
    · simp [World.setCell]; exact hg1.size
    · exact (Below.heap_setCell _ _ _ _ (fun e => hpb (.inl e))).trans (hg1.block b hb (fun e => hpb (.inr (by cases e; rfl))))
    · exact Below.setCell (a := w) (⟨hg1.os, hg1.tape, hg1.output, hg1.size, fun k hk => hg1.block k (Nat.lt_of_lt_of_le hk hB) (fun e => by have := hpb mb (.inr rfl); cases e; omega)⟩) (hpb D (.inl rfl)) _
  have HRUN := Hid.mk hrun
  clear hD h4 h5 hK hT hp hp0 hp8 hD1 hp1 hK1 hg1 hrun
  go_enter Yba.func21, Yba.ntmps21
  go_wp2_with fail
  refine wp_region_pick [0, 1, 2, 3, 4, 5, 6, 7] [8] [0, 1, 2, 3, 4, 5, 6, 7] (fun w' => w'.cell? ⟨D, 4, none⟩ = some (.map (some mb)) ∧ w'.cell? ⟨pb, 0, none⟩ = some (.string s)) (by kernel_rfl) (by kernel_rfl) (fun _ _ d _ _ h => by cases d <;> exact h) ⟨c1, c2⟩ ?_
  iterate 8 (refine wpHead_cons (v := ?_) rfl (by rfl) ?_ ?_; rotate_left 1; (focus (rintro w0 ⟨s1, s2⟩; go_simp; first | done | with_reducible rfl)); simp only [Act.put, List.setIfInBounds_toArray, List.set_cons_zero, List.set_cons_succ])
  refine wpHead_nil ?_
  refine wpTail_list _ _ _ rfl ?_
  simp only [List.filterMap_cons, List.filterMap_nil, List.getElem?_cons_succ, List.getElem?_cons_zero]
  have hrun := HRUN.out
  go_wp2_with fail
  go_end0
  exact ⟨rfl, HF.out⟩

/-- Item j may be forgotten, of the queue a. -/
def cand (X : Nat → Item) (a : Bool) (j : Nat) : Bool := ((X j).ans == a) && !keptB (X j)
/-- .. and its turn comes behind that of all others. -/
def Last (X : Nat → Item) (n : Nat) (a : Bool) (j : Nat) : Prop := cand X a j = true ∧ ∀ i, i < n → i ≠ j → cand X a i = true → bef X i j = true
def PickIs (X : Nat → Item) (n : Nat) (a : Bool) (w : World) (e : Ending) (w' : World) : Prop :=
  (∃ r : Int, e = .returned (.int .i64 r) ∧ ((r = -1 ∧ ∀ j, j < n → ¬ Last X n a j) ∨ ∃ j : Nat, r = j ∧ j < n ∧ Last X n a j)) ∧ Below w.heap.size w w'

set_option maxRecDepth 100000 in
set_option maxHeartbeats 1000000 in
theorem pick_any (a0 : Option Addr) (n cap : Nat) (X : Nat → Item) (qa : Bool) (w : World) (hn : n ≤ 512) (hX : ItsAt w a0 n X) : Calls Yba.prog 8 #[.slice a0 n cap, .bool qa] w fun e w' => PickIs X n qa w e w' := by
  have HX := Hid.mk hX
  clear hX
  go_enter Yba.func8, Yba.ntmps8
  go_wp2_with fail
  go_loopw [5, 6, 7, 10] (fun _ _ _ c wr => ∃ k : Nat, k ≤ n ∧ c = .int .i64 (k : Int) ∧ (∀ j, j < k → ¬ Last X n qa j) ∧ Below w.heap.size w wr) (fun _ _ _ c _ => n - (intOf c).toNat)
  case atStart => exact ⟨0, by omega, rfl, fun j hj => absurd hj (Nat.not_lt_zero _), Below.refl _ _⟩
  case round =>
    obtain ⟨k, hk, rfl, hno, hb⟩ := hrel
    have HNO := Hid.mk hno
    clear hno
    by_cases hlt : k < n
    · obtain ⟨b, o, rfl, c1, c2, c3, c4⟩ := (HX.out.below hb).cells k hlt
      have k0 : (0 : Int) ≤ (k : Int) := by omega
      have k1 : (k : Int) < (n : Int) := by omega
      obtain ⟨d, hd⟩ : ∃ d, (X k).due = d := ⟨_, rfl⟩
      obtain ⟨na, hna⟩ : ∃ d, (X k).nam = d := ⟨_, rfl⟩
      obtain ⟨an, han⟩ : ∃ d, (X k).ans = d := ⟨_, rfl⟩
      obtain ⟨ca, hca⟩ : ∃ d, (X k).car = d := ⟨_, rfl⟩
      rw [hd] at c1
      rw [hna] at c2
      rw [han] at c3
      rw [hca] at c4
      go_upto_region 4 with fail
      go_cut [26] from 11 to 59 (fun v wx => v = .bool (!cand X qa k) ∧ Below w.heap.size w wx)
      case first =>
        cases hqa : (an == qa)
        · go_wp2_with fail
          go_meet
          refine ⟨?_, hb⟩
          unfold cand
          rw [han, hqa]
          simp
        · go_wp2_with fail
          refine (kept_any d na an ca _).mono ?_
          rintro e w1 ⟨rfl, hb1⟩
          have HB1 : Hid (Below w.heap.size w w1) := hb.trans (hb1.mono hb.size)
          clear hb1
          go_wp2_with fail
          go_meet
          refine ⟨?_, HB1.out⟩
          unfold cand keptB
          rw [han, hqa, hna, hd, hca]
          simp
      case rest =>
        obtain ⟨rfl, hbc⟩ := hcut
        clear hb c1 c2 c3 c4 hd hna han hca
        cases hcd : cand X qa k
        · go_wp2_with fail
          go_roundw
          case rel => exact ⟨k + 1, by omega, by go_num, fun j hj hl => by
            by_cases hjk : j = k
            · subst hjk; exact absurd hl.1 (by rw [hcd]; simp)
            · exact HNO.out j (by omega) hl, hbc⟩
          case measure => simp [intOf]; omega
        · have HCD := Hid.mk hcd
          clear hcd
          rw [show (!true) = false from rfl]
          go_wp2_with fail
          obtain ⟨wq, rfl⟩ : ∃ x, x = wc := ⟨wc, rfl⟩
          go_loopw [6, 7, 29] (fun v _ c wr => ∃ q : Nat, q ≤ n ∧ c = .int .i64 (q : Int) ∧ v = .bool true ∧ (∀ i, i < q → i ≠ k → cand X qa i = true → bef X i k = true) ∧ Below w.heap.size w wr) (fun _ _ c _ => n - (intOf c).toNat)
          case atStart => exact ⟨0, by omega, rfl, rfl, fun i hi => absurd hi (Nat.not_lt_zero _), hbc⟩
          case round =>
            clear hbc
            obtain ⟨q, hq, rfl, rfl, hall, hb⟩ := hrel
            have HALL := Hid.mk hall
            clear hall
            by_cases hql : q < n
            · have q0 : (0 : Int) ≤ (q : Int) := by omega
              have q1 : (q : Int) < (n : Int) := by omega
              obtain ⟨b', o', h', c1, c2, c3, c4⟩ := (HX.out.below hb).cells q hql
              cases h'
              obtain ⟨d, hd⟩ : ∃ d, (X q).due = d := ⟨_, rfl⟩
              obtain ⟨na, hna⟩ : ∃ d, (X q).nam = d := ⟨_, rfl⟩
              obtain ⟨an, han⟩ : ∃ d, (X q).ans = d := ⟨_, rfl⟩
              obtain ⟨ca, hca⟩ : ∃ d, (X q).car = d := ⟨_, rfl⟩
              rw [hd] at c1
              rw [hna] at c2
              rw [han] at c3
              rw [hca] at c4
              go_upto_region 9 with fail
              go_cut [50] from 30 to 56 (fun v wx => v = .bool (decide (q = k) || !cand X qa q) ∧ Below w.heap.size w wx)
              case first =>
                by_cases hqk : q = k
                · have hbk : ((q : Int) == (k : Int)) = true := by simp [hqk]
                  have hdd : decide (q = k) = true := by simp [hqk]
                  have HDD := Hid.mk hdd
                  clear hqk hdd
                  go_wp2_with fail
                  go_meet
                  exact ⟨by rw [HDD.out]; rfl, hb⟩
                · have hbk : ((q : Int) == (k : Int)) = false := by simp; omega
                  have hdd : decide (q = k) = false := by simp [hqk]
                  have hqi : ¬ (q : Int) = (k : Int) := by omega
                  cases hqa : (an == qa)
                  · go_wp2_with fail
                    go_meet
                    refine ⟨?_, hb⟩
                    rw [hdd]
                    unfold cand
                    rw [han, hqa]
                    simp
                  · go_wp2_with fail
                    refine (kept_any d na an ca _).mono ?_
                    rintro e w1 ⟨rfl, hb1⟩
                    have HB1 : Hid (Below w.heap.size w w1) := hb.trans (hb1.mono hb.size)
                    clear hb1
                    go_wp2_with fail
                    go_meet
                    refine ⟨?_, HB1.out⟩
                    rw [hdd]
                    unfold cand keptB
                    rw [han, hqa, hna, hd, hca]
                    simp
              case rest =>
                obtain ⟨rfl, hbc⟩ := hcut
                clear hb c1 c2 c3 c4 hd hna han hca
                cases hcd : (decide (q = k) || !cand X qa q)
                · have hcd2 : q ≠ k ∧ cand X qa q = true := by simpa using hcd
                  have HCD2 := Hid.mk hcd2
                  clear hcd hcd2
                  go_wp2_with fail
                  refine (before_any _ n cap q k X _ hql hlt (HX.out.below hbc)).mono ?_
                  rintro e w1 ⟨rfl, hb1⟩
                  have HB1 : Hid (Below w.heap.size w w1) := hbc.trans (hb1.mono hbc.size)
                  clear hb1
                  cases hbf : bef X q k
                  · go_wp2_with fail
                    go_roundw
                    case rel => exact ⟨k + 1, by omega, by go_num, fun j hj hl => by
                      by_cases hjk : j = k
                      · subst hjk
                        have := hl.2 q hql HCD2.out.1 HCD2.out.2
                        rw [hbf] at this; cases this
                      · exact HNO.out j (by omega) hl, HB1.out⟩
                    case measure => simp [intOf]; omega
                  · go_wp2_with fail
                    go_roundw
                    case rel => exact ⟨q + 1, by omega, by go_num, rfl, fun i hi hik hci => by
                      by_cases hiq : i = q
                      · subst hiq; exact hbf
                      · exact HALL.out i (by omega) hik hci, HB1.out⟩
                    case measure => simp [intOf]; omega
                · go_wp2_with fail
                  go_roundw
                  case rel => exact ⟨q + 1, by omega, by go_num, rfl, fun i hi hik hci => by
                    by_cases hiq : i = q
                    · subst hiq
                      have : i = k ∨ cand X qa i = false := by simpa using hcd
                      rcases this with h | h
                      · exact absurd h hik
                      · rw [hci] at h; cases h
                    · exact HALL.out i (by omega) hik hci, hbc⟩
                  case measure => simp [intOf]; omega
            · obtain rfl : q = n := by omega
              go_wp2_with fail
              go_ret
              exact ⟨⟨_, rfl, .inr ⟨k, rfl, hlt, HCD.out, fun i hi hik hci => HALL.out i hi hik hci⟩⟩, hb⟩
    · obtain rfl : k = n := by omega
      go_wp2_with fail
      go_ret
      exact ⟨⟨_, rfl, .inl ⟨rfl, HNO.out⟩⟩, hb⟩
end Go.Proofs.Ybulkdzgm
