/-
  Seat b6614077a, FnBucketsHasOctetsAndDoubling: the walk.
-/
import Derived.Test.Qxb6614077aOctPlain
import Derived.Deep.QuietTactic
import Derived.BigQuiet
import Derived.Deep.RegionWith
import Derived.Deep.DrawnRows
namespace Go.Proofs.Qxb6614077a
open Go.ChangeShapes Go.WideShapes Go.ChangeAt Go.RowKit
attribute [local go_sem ↓] wp_ld22 wp_ld23 wp_st23 Go.wp_at_zero Go.wp_at_succ
attribute [local go_sem] rowAt_new okRow_new okRow_new2 rowAt_old okRow_old rowAt_drew okRow_drew ptrOf_mk ptrB_mk rowOf_mk setRow_new2

/-- what every round keeps: old memory; the octets in block N, the set in block N + 1 -/
def Good (w : World) (cs : Array Value) (wr : World) : Prop :=
  Below w.heap.size w wr ∧ wr.heap[w.heap.size]? = some (.cells cs 22) ∧ wr.heap[w.heap.size + 1]? = some (.cells cs 23)

theorem hide {p : Prop} (h : p) : Hid p := h
theorem start_good (w : World) (cs : Array Value) : Good w cs ((w.alloc (.cells cs 22)).alloc (.cells cs 23)) :=
  ⟨((Below.refl _ _).alloc (Nat.le_refl _) _).alloc (by simp) _, heap_alloc2_old w _ _, heap_alloc2_new w _ _⟩
theorem Good.alloc {w wr : World} {cs : Array Value} (h : Good w cs wr) (o : Obj) : Good w cs (wr.alloc o) := by
  obtain ⟨hb, h0, h1⟩ := h
  have l0 : w.heap.size + 1 < wr.heap.size := (Array.getElem?_eq_some_iff.1 h1).1
  exact ⟨hb.alloc (by omega) o, by rw [Go.heap_alloc_old wr o (by omega)]; exact h0, by rw [Go.heap_alloc_old wr o l0]; exact h1⟩
theorem Good.lt {w wr : World} {cs : Array Value} (h : Good w cs wr) : w.heap.size + 1 < wr.heap.size := (Array.getElem?_eq_some_iff.1 h.2.2).1

/-- the first k octets of block M are those of the doubled number -/
def Dob (w : World) (cs : Array Value) (M : Nat) (z : Nat → Int) (k : Nat) (wr : World) : Prop :=
  Good w cs wr ∧ ∃ D, wr.heap[M]? = some (.cells D 23) ∧ D.size = 32 ∧ ∀ i, i < k → D[i]? = some (.int .u8 (dbl z i))
theorem dob_start {w wr : World} {cs : Array Value} (z : Nat → Int) (h : Good w cs wr) (D : Array Value) (hD : D.size = 32) : Dob w cs wr.heap.size z 0 (wr.alloc (.cells D 23)) :=
  ⟨h.alloc _, D, heap_alloc_new wr _, hD, fun i hi => by omega⟩
theorem Dob.cell {w wr : World} {cs : Array Value} {M : Nat} {z : Nat → Int} {k : Nat} (h : Dob w cs M z k wr) {i : Nat} (hi : i < 32) : ∃ v, wr.cell? ⟨M, i, none⟩ = some v := by
  obtain ⟨_, D, hr, hs, _⟩ := h
  exact ⟨D[i], by rw [cell_of_row wr M i D 23 (0, 0) hr]; simp⟩
theorem Dob.frozen {w wr : World} {cs : Array Value} {M : Nat} {z : Nat → Int} {k : Nat} (h : Dob w cs M z k wr) (i : Nat) : wr.frozen? ⟨M, i, none⟩ = false := by
  obtain ⟨_, D, hr, hs, _⟩ := h
  exact frozen_of_row wr M i D 23 hr
theorem Good.heap {w wr wr' : World} {cs : Array Value} (h : Good w cs wr) (hb : Below w.heap.size w wr') (hh : wr'.heap = wr.heap) : Good w cs wr' := by
  obtain ⟨_, h0, h1⟩ := h
  exact ⟨hb, by rw [hh]; exact h0, by rw [hh]; exact h1⟩
theorem Dob.drewN {w wr : World} {cs : Array Value} {M : Nat} {z : Nat → Int} {k : Nat} (h : Dob w cs M z k wr) (n : Nat) : Dob w cs M z k (wr.drewN n) :=
  ⟨⟨h.1.1.trans ⟨rfl, rfl, rfl, Nat.le_refl _, fun _ _ => rfl⟩, h.1.2⟩, h.2⟩
theorem Dob.step {w wr : World} {cs : Array Value} {M : Nat} {z : Nat → Int} {k : Nat} (h : Dob w cs M z k wr) (hM : w.heap.size + 1 < M) (hk : k < 32) : Dob w cs M z (k + 1) (wr.setCell ⟨M, k, none⟩ (.int .u8 (dbl z k))) := by
  obtain ⟨⟨hb, h0, h1⟩, D, hr, hs, hd⟩ := h
  refine ⟨⟨hb.setCell (by show w.heap.size ≤ M; omega) _, ?_, ?_⟩, D.setIfInBounds k (.int .u8 (dbl z k)), heap_setCell_same wr M k D 23 _ hr, by simpa using hs, fun i hi => ?_⟩
  · rw [heap_setCell_other _ _ _ _ (by show w.heap.size ≠ M; omega)]; exact h0
  · rw [heap_setCell_other _ _ _ _ (by show w.heap.size + 1 ≠ M; omega)]; exact h1
  · by_cases e : i = k
    · subst e; simp [hs, hk]
    · rw [Array.getElem?_setIfInBounds_ne (by omega)]; exact hd i (by omega)

theorem has_at (cs : Array Value) (z : Nat → Int) (hc : ∀ i, i < 32 → cs[i]? = some (.int .u8 (z i))) (hb : ∀ i, 0 ≤ z i ∧ z i ≤ 255) (k m : Nat) (hk : k < 32) (hm : m < 8) (w : World) :
    Calls Try.prog 5 #[.agg cs, .int .u8 (8 * (k : Int) + (m : Int))] w fun e w' => e = .returned (.bool (bitB (z k) m)) ∧ w' = w.alloc (.cells cs 23) := by
  have h := has_any cs (z k) (8 * (k : Int) + (m : Int)) (by omega) (by omega) (hb k).1 (hb k).2 (by rw [show ((8 * (k : Int) + (m : Int)) / 8).toNat = k by omega]; exact hc k hk) w
  rw [show ((8 * (k : Int) + (m : Int)) % 8).toNat = m by omega] at h
  exact h

theorem has_zero (D : Array Value) (z : Nat → Int) (hD : ∀ i, i < 32 → D[i]? = some (.int .u8 (dbl z i))) (w : World) :
    Calls Try.prog 5 #[.agg D, .int .u8 0] w fun e w' => e = .returned (.bool false) ∧ w' = w.alloc (.cells D 23) := by
  have h := has_any D (dbl z 0) 0 (by omega) (by omega) (dbl_bd z 0).1 (dbl_bd z 0).2 (hD 0 (by omega)) w
  rw [show ((0 : Int) % 8).toNat = 0 from rfl, dbl_first z] at h
  exact h
theorem has_of (cs : Array Value) (z : Nat → Int) (hc : ∀ i, i < 32 → cs[i]? = some (.int .u8 (z i))) (hb : ∀ i, 0 ≤ z i ∧ z i ≤ 255) (k : Nat) (hk : k ≤ 255) (q : Int) (hq : q = k) (w : World) :
    Calls Try.prog 5 #[.agg cs, .int .u8 q] w fun e w' => e = .returned (.bool (bitB (z (k / 8)) (k % 8))) ∧ w' = w.alloc (.cells cs 23) := by
  subst hq
  have h := has_any cs (z (k / 8)) (k : Int) (by omega) (by omega) (hb _).1 (hb _).2 (by rw [show ((k : Int) / 8).toNat = k / 8 by omega]; exact hc (k / 8) (by omega)) w
  rw [show ((k : Int) % 8).toNat = k % 8 by omega] at h
  exact h
theorem has_pair (cs D : Array Value) (z : Nat → Int) (hc : ∀ i, i < 32 → cs[i]? = some (.int .u8 (z i))) (hb : ∀ i, 0 ≤ z i ∧ z i ≤ 255) (hD : ∀ i, i < 32 → D[i]? = some (.int .u8 (dbl z i))) (k : Nat) (hk : k < 255) :
    ∃ B : Bool, Hid (∀ W : World, Calls Try.prog 5 #[.agg D, .int .u8 (IntKind.u8.wrap (IntKind.i64.wrap ((k : Int) + 1)))] W fun e w' => e = .returned (.bool B) ∧ w' = W.alloc (.cells D 23)) ∧
      Hid (∀ W : World, Calls Try.prog 5 #[.agg cs, .int .u8 (IntKind.u8.wrap (k : Int))] W fun e w' => e = .returned (.bool B) ∧ w' = W.alloc (.cells cs 23)) := by
  refine ⟨bitB (z (k / 8)) (k % 8), fun W => ?_, fun W => has_of cs z hc hb k (by omega) _ (by rw [IntKind.wrap_u8]; omega) W⟩
  rw [← dbl_next z hb k]
  exact has_of D (dbl z) hD (dbl_bd z) (k + 1) (by omega) _ (by rw [IntKind.wrap_u8, IntKind.wrap_i64]; omega) W
/-- what the last loop keeps -/
def Two (w : World) (cs : Array Value) (M : Nat) (D : Array Value) (wr : World) : Prop := Good w cs wr ∧ wr.heap[M]? = some (.cells D 23)
theorem Two.alloc {w wr : World} {cs D : Array Value} {M : Nat} (h : Two w cs M D wr) (o : Obj) : Two w cs M D (wr.alloc o) :=
  ⟨h.1.alloc o, by rw [Go.heap_alloc_old wr o (Array.getElem?_eq_some_iff.1 h.2).1]; exact h.2⟩
theorem two_start {w wr : World} {cs D : Array Value} {M : Nat} (hg : Good w cs wr) (hr : wr.heap[M]? = some (.cells D 23)) {o : Obj} : Two w cs M D (wr.alloc o) := Two.alloc ⟨hg, hr⟩ o
theorem Two.drew {w wr : World} {cs D : Array Value} {M : Nat} (h : Two w cs M D wr) : Two w cs M D wr.drew := ⟨⟨h.1.1.drew, h.1.2⟩, h.2⟩
theorem Two.rowD {w wr : World} {cs D : Array Value} {M : Nat} (h : Two w cs M D wr) : rowAt wr M = D := rowAt_of h.2
theorem Two.okD {w wr : World} {cs D : Array Value} {M : Nat} (h : Two w cs M D wr) (hs : D.size = 32) : okRow wr M = true := okRow_of h.2 hs
theorem Two.ltD {w wr : World} {cs D : Array Value} {M : Nat} (h : Two w cs M D wr) : M < wr.heap.size := (Array.getElem?_eq_some_iff.1 h.2).1
theorem Two.rowC {w wr : World} {cs D : Array Value} {M : Nat} (h : Two w cs M D wr) : rowAt wr (w.heap.size + 1) = cs := rowAt_of h.1.2.2
theorem Two.okC {w wr : World} {cs D : Array Value} {M : Nat} (h : Two w cs M D wr) (hs : cs.size = 32) : okRow wr (w.heap.size + 1) = true := okRow_of h.1.2.2 hs
theorem Two.ltC {w wr : World} {cs D : Array Value} {M : Nat} (h : Two w cs M D wr) : w.heap.size + 1 < wr.heap.size := h.1.lt

set_option maxHeartbeats 1000000 in
set_option maxRecDepth 20000 in
theorem walk4 (cs : Array Value) (z : Nat → Int) (hz : cs.size = 32) (h1c : cs.all (·.oneCell') = true) (hc : ∀ i, i < 32 → cs[i]? = some (.int .u8 (z i))) (hb : ∀ i, 0 ≤ z i ∧ z i ≤ 255) (w : World) :
    Calls Try.prog 4 #[.agg cs] w fun e w' => e = .returned (.bool true) ∧ Below w.heap.size w w' := by
  have hok : okVal (.agg cs) = true := by simp only [okVal, Bool.and_eq_true, beq_iff_eq]; exact ⟨hz, h1c⟩
  have HC : Hid (∀ i, i < 32 → cs[i]? = some (.int .u8 (z i))) := hc
  have HB : Hid (∀ i, 0 ≤ z i ∧ z i ≤ 255) := hb
  clear hc hb h1c
  go_enter Try.func4, Try.ntmps4
  go_wp2_with fail
  go_loopw [4] (fun i wr => ∃ k : Nat, k ≤ 32 ∧ i = .int .i64 k ∧ Good w cs wr) (fun i _ => 32 - (intOf i).toNat)
  case atStart => exact ⟨0, by omega, rfl, start_good w cs⟩
  case round =>
    obtain ⟨k, hk, rfl, hg⟩ := hrel
    have HG : Hid (Good w cs wr) := hg
    clear hg
    by_cases hlt : k < 32
    · have hzk := HB.out k
      have HH := fun m hm W => has_at cs z HC.out HB.out k m hlt hm W
      have H1 := hide HH
      clear HH
      go_wp2_with fail
      rw [show decide ((k : Int) < 32) = true from decide_eq_true (by omega)]
      go_loopw [5, 6, 7] (fun v u j wr2 => ∃ m : Nat, m ≤ 8 ∧ j = .int .i64 m ∧ u = .int .i64 (pw m) ∧ v = .int .i64 (lowb (z k) m) ∧ Good w cs wr2) (fun _ _ j _ => 8 - (intOf j).toNat)
      case atStart => exact ⟨0, by omega, rfl, rfl, by rw [lowb_zero], HG.out⟩
      case round =>
        clear HG
        obtain ⟨m, hm, rfl, rfl, rfl, hg⟩ := hrel
        have hpw := pw_bd m hm
        have hlb := lowb_bd (z k) m hm
        by_cases hmt : m < 8
        · have hr := rowAt_of hg.2.2
          have ho := okRow_of hg.2.2 hz
          have HG : Hid (Good w cs wr) := hg
          clear hg
          cases hbit : bitB (z k) m
          · have HS : Hid (lowb (z k) (m + 1) = lowb (z k) m) := lowb_out (z k) m hmt hbit
            have HP : Hid (pw (m + 1) = pw m * 2) := pw_succ m
            go_wp2_with (go_at_call 5; refine (H1.out m hmt _).mono ?_; rintro e w' ⟨rfl, rfl⟩)
            go_roundw
            case rel => exact ⟨m + 1, by omega, by go_num, by rw [HP.out], by rw [HS.out], HG.out.alloc _⟩
            case measure => simp [intOf]; omega
          · have HS : Hid (lowb (z k) (m + 1) = lowb (z k) m + pw m) := lowb_in (z k) m hmt hbit
            have HP : Hid (pw (m + 1) = pw m * 2) := pw_succ m
            go_wp2_with (go_at_call 5; refine (H1.out m hmt _).mono ?_; rintro e w' ⟨rfl, rfl⟩)
            go_roundw
            case rel => exact ⟨m + 1, by omega, by go_num, by rw [HP.out], by rw [HS.out], HG.out.alloc _⟩
            case measure => simp [intOf]; omega
        · obtain rfl : m = 8 := by omega
          rw [lowb_eight (z k) hzk.1 hzk.2]
          have hcell : wr.cell? ⟨w.heap.size, k, none⟩ = some (.int .u8 (z k)) := by rw [cell_of_row wr _ k cs 22 (0, 0) hg.2.1]; exact HC.out k hlt
          have HG : Hid (Good w cs wr) := hg
          clear hg H1
          go_wp2
          go_roundw
          case rel => exact ⟨k + 1, by omega, by go_num, HG.out⟩
          case measure => simp [intOf]; omega
    · obtain rfl : k = 32 := by omega
      go_wp2_with fail
      rw [show ((32 : Nat) : Int) = 32 from rfl]
      have hs0 := dob_start z HG.out
      have hM0 : w.heap.size + 1 < wr.heap.size := HG.out.lt
      obtain ⟨M, hM⟩ : ∃ M, wr.heap.size = M := ⟨_, rfl⟩
      rw [hM] at hs0 hM0 ⊢
      clear hM HG
      go_loopw [9, 10] (fun c i wr => ∃ k : Nat, k ≤ 32 ∧ i = .int .i64 k ∧ c = .int .i64 (car z k) ∧ Dob w cs M z k wr) (fun _ i _ => 32 - (intOf i).toNat)
      case atStart => exact ⟨0, by omega, rfl, rfl, hs0 _ rfl⟩
      case round =>
        clear hs0
        obtain ⟨k, hk, rfl, rfl, hd⟩ := hrel
        have hcb := car_bd z HB.out k
        by_cases hlt : k < 32
        · have hzk := HB.out k
          have hcell : wr.cell? ⟨w.heap.size, k, none⟩ = some (.int .u8 (z k)) := by rw [cell_of_row wr _ k cs 22 (0, 0) hd.1.2.1]; exact HC.out k hlt
          obtain ⟨old, hold⟩ := hd.cell hlt
          have hfz := hd.frozen k
          have HD : Hid (Dob w cs M z k wr) := hd
          clear hd
          have hlt' : (k : Int) < 32 := by omega
          go_wp2_with fail
          go_quiet (fail)
          go_wp2_with fail
          go_roundw
          case rel =>
            exact ⟨k + 1, by omega, by go_num, by rw [car_succ], (HD.out.drewN nq).step hM0 hlt⟩
          case measure => simp [intOf]; omega
        · obtain rfl : k = 32 := by omega
          obtain ⟨hg, D, hrD, hsD, hD⟩ := hd
          have hrow := rowAt_of hrD
          have hokD := okRow_of hrD hsD
          have HG : Hid (Good w cs wr) := hg
          have HR : Hid (wr.heap[M]? = some (.cells D 23)) := hrD
          have HD : Hid (∀ i, i < 32 → D[i]? = some (.int .u8 (dbl z i))) := hD
          clear hg hrD hD
          have H0 := hide fun W => has_zero D z HD.out W
          rw [show ((32 : Nat) : Int) = 32 from rfl]
          go_wp2_with (go_at_call 5; refine (H0.out _).mono ?_; rintro e w' ⟨rfl, rfl⟩)
          go_loopw [12] (fun i wr => ∃ k : Nat, k ≤ 255 ∧ i = .int .i64 k ∧ Two w cs M D wr) (fun i _ => 255 - (intOf i).toNat)
          case atStart => exact ⟨0, by omega, rfl, two_start HG.out HR.out⟩
          case round =>
            clear HG HR hrow hokD H0
            obtain ⟨k, hk, rfl, hg⟩ := hrel
            by_cases hlt : k < 255
            · obtain ⟨B, H1, H2⟩ := has_pair cs D z HC.out HB.out HD.out k hlt
              have g1 := hg.rowD
              have g2 := hg.okD hsD
              have g3 := hg.ltD
              have g4 := hg.rowC
              have g5 := hg.okC hz
              have g6 := hg.ltC
              have HT := hide hg
              clear hg
              go_wp2_with fail

              go_region_with (first | (go_at_call_of 5 (Value.agg D); refine (H1.out _).mono ?_; rintro e w' ⟨rfl, rfl⟩) | (go_at_call_of 5 (Value.agg cs); refine (H2.out _).mono ?_; rintro e w' ⟨rfl, rfl⟩))
              all_goals
                clear H1 H2
                go_wp2
                go_roundw
                case rel => exact ⟨k + 1, by omega, by go_num, by first | exact ((HT.out.alloc _).alloc _).drew | exact ((HT.out.drew).alloc _).alloc _ | exact ((HT.out.alloc _).drew).alloc _⟩
                case measure => simp [intOf]; omega
            · have HT := hide hg.1.1
              clear hg
              go_wp2
              go_ret
              exact ⟨rfl, HT.out⟩
end Go.Proofs.Qxb6614077a
