/-
  Seat b6614077a, FnBucketsHasComplementAndCount: the walks (zzOnes; the law).
-/
import Derived.Test.Qxb6614077aCntPlain
namespace Go.Proofs.Qxb6614077a.Cnt
open Go.ChangeShapes Go.WideShapes Go.ChangeAt Go.RowKit
attribute [local go_sem ↓] wp_ld22 wp_ld23 wp_st23
attribute [local go_sem] rowAt_new okRow_new okRow_new2 rowAt_old okRow_old rowAt_drew okRow_drew ptrOf_mk ptrB_mk rowOf_mk setRow_new2
theorem hide {p : Prop} (h : p) : Hid p := h
theorem ret_i {k : IntKind} {a b : Int} (h : a = b) : Ending.returned (.int k a) = .returned (.int k b) := by rw [h]

set_option maxHeartbeats 400000 in
set_option maxRecDepth 20000 in
theorem ones_any (cs : Array Value) (z : Nat → Int) (hc : ∀ i, i < 32 → cs[i]? = some (.int .u8 (z i))) (hb : ∀ i, 0 ≤ z i ∧ z i ≤ 255) (w : World) :
    Calls Try.prog 6 #[.agg cs] w fun e w' => e = .returned (.int .i64 (ones z 32)) ∧ w' = w.alloc (.cells cs 22) := by
  have HC := hide hc
  have HB := hide hb
  clear hc hb
  go_enter Try.func6, Try.ntmps6
  go_wp2
  go_loop [3, 4] (fun n i => ∃ k : Nat, k ≤ 32 ∧ i = .int .i64 k ∧ n = .int .i64 (ones z k)) (fun _ i => 32 - (intOf i).toNat)
  case atStart => exact ⟨0, by omega, rfl, rfl⟩
  case round =>
    obtain ⟨k, hk, rfl, rfl⟩ := hrel
    by_cases hlt : k < 32
    · have hcell := HC.out k hlt
      have hzk := HB.out k
      have hok := ones_le z k
      go_wp2_with fail
      go_loop [3, 5] (fun n v => ∃ (a : Int) (q : Nat), 0 ≤ a ∧ a ≤ 255 ∧ v = .int .u8 a ∧ n = .int .i64 q ∧ q + pc a = ones z k + pc (z k)) (fun _ v => (intOf v).toNat)
      case atStart => exact ⟨z k, ones z k, hzk.1, hzk.2, rfl, rfl, rfl⟩
      case round =>
        obtain ⟨a, q, ha0, ha1, rfl, rfl, hq⟩ := hrel
        have hpz := pc_le (z k)
        have hqb : q ≤ 264 := by omega
        have HQ := hide hq
        clear hq
        by_cases ha : a = 0
        · subst ha
          have HE := hide (show q = ones z (k + 1) by have := HQ.out; rw [pc_zero] at this; rw [ones_succ]; exact this)
          go_wp2
          go_round
          case rel => exact ⟨k + 1, by omega, by go_num, by rw [← HE.out]⟩
          case measure => simp [intOf]; omega
        · have HL := hide (clear_low a ha0 ha1 ha)
          have hpos : 0 < a := by omega
          go_wp2
          go_round
          case rel => exact ⟨_, q + 1, HL.out.2.1, by have := HL.out.2.2; omega, rfl, by go_num, by have := HL.out.1; have := HQ.out; omega⟩
          case measure => have := HL.out.2; simp [intOf]; omega
    · obtain rfl : k = 32 := by omega
      go_wp2
      go_ret
      exact ⟨rfl, rfl⟩

/-- what every round keeps: old memory; the octets in block N, the set in block N + 1 -/
def Good (w : World) (cs : Array Value) (wr : World) : Prop :=
  Below w.heap.size w wr ∧ wr.heap[w.heap.size]? = some (.cells cs 22) ∧ wr.heap[w.heap.size + 1]? = some (.cells cs 23)
theorem Good.lt {w wr : World} {cs : Array Value} (h : Good w cs wr) : w.heap.size + 1 < wr.heap.size := (Array.getElem?_eq_some_iff.1 h.2.2).1
theorem Good.alloc {w wr : World} {cs : Array Value} (h : Good w cs wr) (o : Obj) : Good w cs (wr.alloc o) := by
  have l0 := h.lt
  obtain ⟨hb, h0, h1⟩ := h
  exact ⟨hb.alloc (by omega) o, by rw [Go.heap_alloc_old wr o (by omega)]; exact h0, by rw [Go.heap_alloc_old wr o l0]; exact h1⟩
/-- the first k octets of block N + 2 are those of f -/
def Part (w : World) (cs : Array Value) (f : Nat → Int) (k : Nat) (wr : World) : Prop :=
  Good w cs wr ∧ ∃ D, wr.heap[w.heap.size + 2]? = some (.cells D 23) ∧ D.size = 32 ∧ ∀ i, i < k → D[i]? = some (.int .u8 (f i))
theorem part_start (w : World) (cs : Array Value) (f : Nat → Int) (D : Array Value) (hD : D.size = 32) : Part w cs f 0 (((w.alloc (.cells cs 22)).alloc (.cells cs 23)).alloc (.cells D 23)) := by
  have hg : Good w cs ((w.alloc (.cells cs 22)).alloc (.cells cs 23)) := ⟨((Below.refl _ _).alloc (Nat.le_refl _) _).alloc (by simp) _, heap_alloc2_old w _ _, heap_alloc2_new w _ _⟩
  refine ⟨hg.alloc _, D, ?_, hD, fun i hi => by omega⟩
  have h := heap_alloc2_new (w.alloc (.cells cs 22)) (.cells cs 23) (.cells D 23)
  rw [show (w.alloc (.cells cs 22)).heap.size = w.heap.size + 1 from by show (w.heap.push _).size = _; simp] at h
  exact h
theorem Part.cell {w wr : World} {cs : Array Value} {f : Nat → Int} {k : Nat} (h : Part w cs f k wr) {i : Nat} (hi : i < 32) : ∃ v, wr.cell? ⟨w.heap.size + 2, i, none⟩ = some v := by
  obtain ⟨_, D, hr, hs, _⟩ := h
  exact ⟨D[i], by rw [cell_of_row wr _ i D 23 (0, 0) hr]; simp⟩
theorem Part.frozen {w wr : World} {cs : Array Value} {f : Nat → Int} {k : Nat} (h : Part w cs f k wr) (i : Nat) : wr.frozen? ⟨w.heap.size + 2, i, none⟩ = false := by
  obtain ⟨_, D, hr, hs, _⟩ := h
  exact frozen_of_row wr _ i D 23 hr
theorem Part.step {w wr : World} {cs : Array Value} {f : Nat → Int} {k : Nat} (h : Part w cs f k wr) (hk : k < 32) : Part w cs f (k + 1) (wr.setCell ⟨w.heap.size + 2, k, none⟩ (.int .u8 (f k))) := by
  obtain ⟨⟨hb, h0, h1⟩, D, hr, hs, hd⟩ := h
  refine ⟨⟨hb.setCell (by show w.heap.size ≤ w.heap.size + 2; omega) _, ?_, ?_⟩, D.setIfInBounds k (.int .u8 (f k)), heap_setCell_same wr _ k D 23 _ hr, by simpa using hs, fun i hi => ?_⟩
  · rw [heap_setCell_other _ _ _ _ (by show w.heap.size ≠ w.heap.size + 2; omega)]; exact h0
  · rw [heap_setCell_other _ _ _ _ (by show w.heap.size + 1 ≠ w.heap.size + 2; omega)]; exact h1
  · by_cases e : i = k
    · subst e; simp [hs, hk]
    · rw [Array.getElem?_setIfInBounds_ne (by omega)]; exact hd i (by omega)
theorem has_of (cs : Array Value) (z : Nat → Int) (hc : ∀ i, i < 32 → cs[i]? = some (.int .u8 (z i))) (hb : ∀ i, 0 ≤ z i ∧ z i ≤ 255) (k : Nat) (hk : k ≤ 255) (w : World) :
    Calls Try.prog 5 #[.agg cs, .int .u8 (k : Int)] w fun e w' => e = .returned (.bool (bitB (z (k / 8)) (k % 8))) ∧ w' = w.alloc (.cells cs 23) := by
  have h := has_any cs (z (k / 8)) (k : Int) (by omega) (by omega) (hb _).1 (hb _).2 (by rw [show ((k : Int) / 8).toNat = k / 8 by omega]; exact hc (k / 8) (by omega)) w
  rw [show ((k : Int) % 8).toNat = k % 8 by omega] at h
  exact h
theorem has_not (D : Array Value) (z : Nat → Int) (hb : ∀ i, 0 ≤ z i ∧ z i ≤ 255) (hD : ∀ i, i < 32 → D[i]? = some (.int .u8 (255 - z i))) (k : Nat) (hk : k ≤ 255) (w : World) :
    Calls Try.prog 5 #[.agg D, .int .u8 (k : Int)] w fun e w' => e = .returned (.bool (!bitB (z (k / 8)) (k % 8))) ∧ w' = w.alloc (.cells D 23) := by
  rw [← bit_not _ _ (by omega)]
  exact has_of D (fun i => 255 - z i) hD (fun i => by have := hb i; omega) k hk w
theorem not_nat : ∀ n : Fin 256, 255 ^^^ n.val = 255 - n.val := by decide +kernel
theorem not_octet (x : Int) (h0 : 0 ≤ x) (h1 : x ≤ 255) : bits BinOp.xor IntKind.u8 (if IntKind.u8.signed = true then -1 else IntKind.u8.max) x = 255 - x := by
  rw [show (if IntKind.u8.signed = true then (-1 : Int) else IntKind.u8.max) = 255 by decide, u8_xor 255 x (by omega) (by omega) h0 (by omega)]
  obtain ⟨n, rfl⟩ := Int.eq_ofNat_of_zero_le h0
  have h := not_nat ⟨n, by omega⟩
  simp only at h
  rw [Int.toNat_natCast, show (255 : Int).toNat = 255 from rfl, h]
  omega
/-- what the second loop keeps -/
def Two (w : World) (cs D : Array Value) (wr : World) : Prop := Good w cs wr ∧ wr.heap[w.heap.size + 2]? = some (.cells D 23)
theorem Two.lt {w wr : World} {cs D : Array Value} (h : Two w cs D wr) : w.heap.size + 2 < wr.heap.size := (Array.getElem?_eq_some_iff.1 h.2).1
theorem Two.alloc {w wr : World} {cs D : Array Value} (h : Two w cs D wr) (o : Obj) : Two w cs D (wr.alloc o) :=
  ⟨h.1.alloc o, by rw [Go.heap_alloc_old wr o h.lt]; exact h.2⟩

set_option maxHeartbeats 1000000 in
set_option maxRecDepth 20000 in
theorem walk3 (cs : Array Value) (z : Nat → Int) (hz : cs.size = 32) (h1c : cs.all (·.oneCell') = true) (hc : ∀ i, i < 32 → cs[i]? = some (.int .u8 (z i))) (hb : ∀ i, 0 ≤ z i ∧ z i ≤ 255) (w : World) :
    Calls Try.prog 3 #[.agg cs] w fun e w' => e = .returned (.bool true) ∧ Below w.heap.size w w' := by
  have hok : okVal (.agg cs) = true := by simp only [okVal, Bool.and_eq_true, beq_iff_eq]; exact ⟨hz, h1c⟩
  have HC := hide hc
  have HB := hide hb
  clear hc hb h1c
  go_enter Try.func3, Try.ntmps3
  go_wp2_with fail
  go_loopw [5] (fun i wr => ∃ k : Nat, k ≤ 32 ∧ i = .int .i64 k ∧ Part w cs (fun i => 255 - z i) k wr) (fun i _ => 32 - (intOf i).toNat)
  case atStart => exact ⟨0, by omega, rfl, part_start w cs _ _ rfl⟩
  case round =>
    obtain ⟨k, hk, rfl, hd⟩ := hrel
    by_cases hlt : k < 32
    · have hzk := HB.out k
      have hcell : wr.cell? ⟨w.heap.size, k, none⟩ = some (.int .u8 (z k)) := by rw [cell_of_row wr _ k cs 22 (0, 0) hd.1.2.1]; exact HC.out k hlt
      obtain ⟨old, hold⟩ := hd.cell hlt
      have hfz := hd.frozen k
      have HD := hide hd
      clear hd
      go_wp2_with fail
      go_roundw
      case rel =>
        exact ⟨k + 1, by omega, by go_num, by rw [not_octet (z k) hzk.1 hzk.2]; exact HD.out.step hlt⟩
      case measure => simp [intOf]; omega
    · obtain rfl : k = 32 := by omega
      obtain ⟨hg, D, hrD, hsD, hD⟩ := hd
      have H1 := hide fun k hk W => has_of cs z HC.out HB.out k hk W
      have H2 := hide fun k hk W => has_not D z HB.out hD k hk W
      have HT := hide (show Two w cs D wr from ⟨hg, hrD⟩)
      clear hg hrD hD
      go_wp2_with fail
      rw [show ((32 : Nat) : Int) = 32 from rfl]
      go_loopw [6, 7] (fun n i wr => ∃ k : Nat, k ≤ 256 ∧ i = .int .i64 k ∧ n = .int .i64 (held z k) ∧ Two w cs D wr) (fun _ i _ => 256 - (intOf i).toNat)
      case atStart => exact ⟨0, by omega, rfl, rfl, HT.out⟩
      case round =>
        clear HT
        obtain ⟨k, hk, rfl, rfl, hg⟩ := hrel
        have hhl := held_le z k
        by_cases hlt : k < 256
        · have g1 : rowAt wr (w.heap.size + 1 + 1) = D := rowAt_of hg.2
          have g2 : okRow wr (w.heap.size + 1 + 1) = true := okRow_of hg.2 hsD
          have g3 : w.heap.size + 1 + 1 < wr.heap.size := hg.lt
          have g4 := rowAt_of hg.1.2.2
          have g5 := okRow_of hg.1.2.2 hz
          have g6 := hg.1.lt
          have HT := hide hg
          clear hg
          cases hbit : bitB (z (k / 8)) (k % 8)
          · have HS := hide (held_out z k hbit)
            go_wp2_with fail
            refine (H1.out k (by omega) _).mono ?_
            rintro e w' ⟨rfl, rfl⟩
            go_wp2_with fail
            refine (H2.out k (by omega) _).mono ?_
            rintro e w' ⟨rfl, rfl⟩
            go_wp2_with fail
            go_roundw
            case rel => exact ⟨k + 1, by omega, by go_num, by rw [HS.out], (HT.out.alloc _).alloc _⟩
            case measure => simp [intOf]; omega
          · have HS := hide (held_in z k hbit)
            go_wp2_with fail
            refine (H1.out k (by omega) _).mono ?_
            rintro e w' ⟨rfl, rfl⟩
            go_wp2_with fail
            refine (H2.out k (by omega) _).mono ?_
            rintro e w' ⟨rfl, rfl⟩
            go_wp2_with fail
            go_roundw
            case rel => exact ⟨k + 1, by omega, by go_num, by rw [HS.out]; go_num, (HT.out.alloc _).alloc _⟩
            case measure => simp [intOf]; omega
        · have he : held z k = ones z 32 := by rw [show k = 256 by omega]; exact held_256 z
          have H3 := hide fun W => ones_any cs z HC.out HB.out W
          rw [he]
          clear he hhl
          generalize ones z 32 = q at H3 ⊢
          have g1 := rowAt_of hg.1.2.1
          have g2 := okRow_of hg.1.2.1 hz
          have HT := hide hg
          clear hg H1 H2
          go_wp2_with fail
          refine (H3.out _).mono ?_
          rintro e w' ⟨rfl, rfl⟩
          go_wp2
          go_ret
          exact ⟨rfl, (HT.out.1.alloc _).1⟩
end Go.Proofs.Qxb6614077a.Cnt
