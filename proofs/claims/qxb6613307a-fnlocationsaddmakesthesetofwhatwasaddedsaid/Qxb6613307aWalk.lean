/-
  Seat b6613307a: the walks: the callees' contracts, then the law.
-/
import Derived.Test.Qxb6613307aSet
namespace Go.Proofs.Qxb6613307a
open Go.ChangeShapes Go.WideShapes Go.ChangeAt Go.RowKit
theorem hide {p : Prop} (h : p) : Hid p := h

set_option maxHeartbeats 400000 in
theorem add8 (b : Nat) (x l : Int) (hl : 0 ≤ l) (w : World) (hc : w.cell? ⟨b, 0, none⟩ = some (.int .u8 x)) (hf : w.frozen? ⟨b, 0, none⟩ = false) :
    Calls Try.prog 8 #[.pointer (some ⟨b, 0, none⟩), .int .i64 l] w fun e w' => e = .returned (.tuple #[]) ∧ w' = (w.setCell ⟨b, 0, none⟩ (.int .u8 (addL x l))).drew := by
  go_enter Try.func8, Try.ntmps8
  go_wp2
  go_region
  go_end0
  exact ⟨rfl, rfl⟩
set_option maxHeartbeats 400000 in
theorem add6 (b : Nat) (x l : Int) (hl : 0 ≤ l) (w : World) (hc : w.cell? ⟨b, 0, none⟩ = some (.int .u8 x)) (hf : w.frozen? ⟨b, 0, none⟩ = false) :
    Calls Try.prog 6 #[.pointer (some ⟨b, 0, none⟩), .int .i64 l] w fun e w' => e = .returned (.tuple #[]) ∧ w' = (w.setCell ⟨b, 0, none⟩ (.int .u8 (addL x l))).drew := by
  go_enter Try.func6, Try.ntmps6
  go_wp2_with (go_at_call 8; refine (add8 b x l hl _ hc hf).mono ?_; rintro e w' ⟨rfl, rfl⟩)
  go_end0
  exact ⟨rfl, rfl⟩
set_option maxHeartbeats 400000 in
theorem new5 (s : Int) (w : World) :
    Calls Try.prog 5 #[.int .u8 s] w fun e w' => e = .returned (.pointer (some ⟨w.heap.size, 0, none⟩)) ∧ w' = w.alloc (.cells #[.int .u8 s] 30) := by
  go_enter Try.func5, Try.ntmps5
  go_wp2
  go_ret
  exact ⟨rfl, rfl⟩
set_option maxHeartbeats 400000 in
theorem val7 (b : Nat) (x : Int) (w : World) (hc : w.cell? ⟨b, 0, none⟩ = some (.int .u8 x)) :
    Calls Try.prog 7 #[.pointer (some ⟨b, 0, none⟩)] w fun e w' => e = .returned (.int .u8 x) ∧ w' = w := by
  go_enter Try.func7, Try.ntmps7
  go_wp2
  go_ret
  exact ⟨rfl, rfl⟩
set_option maxHeartbeats 400000 in
theorem small4 (s : Int) (a : Option Addr) (len cap : Nat) (h : len ≤ 1048576) (w : World) :
    Calls Try.prog 4 #[.int .u8 s, .slice a len cap] w fun e w' => e = .returned (.bool true) ∧ w' = w := by
  go_enter Try.func4, Try.ntmps4
  go_wp2
  go_ret
  exact ⟨rfl, rfl⟩
set_option maxHeartbeats 400000 in
theorem large4 (s : Int) (a : Option Addr) (len cap : Nat) (h : 1048576 < len) (w : World) :
    Calls Try.prog 4 #[.int .u8 s, .slice a len cap] w fun e w' => e = .returned (.bool false) ∧ w' = w := by
  go_enter Try.func4, Try.ntmps4
  go_wp2
  go_ret
  exact ⟨rfl, rfl⟩

/-- the forward set so far, in block B -/
def Fwd (w : World) (s : Int) (f : Nat → Int) (k : Nat) (wr : World) : Prop :=
  Below w.heap.size w wr ∧ ∃ x, IsSet s f 0 k x ∧ wr.heap[w.heap.size]? = some (.cells #[.int .u8 x] 30)
theorem fwd_start (w : World) (s : Int) (f : Nat → Int) (h0 : 0 ≤ s) (h1 : s ≤ 255) : Fwd w s f 0 (w.alloc (.cells #[.int .u8 s] 30)) :=
  ⟨(Below.refl _ _).alloc (Nat.le_refl _) _, s, set_start s f 0 h0 h1, heap_alloc_new w _⟩
theorem cell_of_one {w : World} {g : Nat} {v : Value} (h : w.heap[g]? = some (.cells #[v] 30)) : w.cell? ⟨g, 0, none⟩ = some v := by rw [cell_of_row w g 0 #[v] 30 (0, 0) h]; rfl
theorem fwd_step {w wr : World} {s : Int} {f : Nat → Int} {k : Nat} {x : Int} (hb : Below w.heap.size w wr) (hx : IsSet s f 0 k x) (hr : wr.heap[w.heap.size]? = some (.cells #[.int .u8 x] 30)) (hf : 0 ≤ f k) :
    Fwd w s f (k + 1) (wr.setCell ⟨w.heap.size, 0, none⟩ (.int .u8 (addL x (f k)))).drew :=
  ⟨(hb.setCell (Nat.le_refl _) _).drew, _, set_up hx (by omega) hf, heap_setCell_same wr _ 0 _ 30 _ hr⟩
/-- the whole forward set x in block B; the backward set so far in block M -/
def Bwd (w : World) (s : Int) (f : Nat → Int) (n : Nat) (x : Int) (M k : Nat) (wr : World) : Prop :=
  Below w.heap.size w wr ∧ wr.heap[w.heap.size]? = some (.cells #[.int .u8 x] 30) ∧ ∃ y, IsSet s f k n y ∧ wr.heap[M]? = some (.cells #[.int .u8 y] 30)
theorem bwd_start {w wr : World} {s : Int} {f : Nat → Int} {n : Nat} {x : Int} (h0 : 0 ≤ s) (h1 : s ≤ 255) (hb : Below w.heap.size w wr) (hr : wr.heap[w.heap.size]? = some (.cells #[.int .u8 x] 30)) :
    Bwd w s f n x wr.heap.size n (wr.alloc (.cells #[.int .u8 s] 30)) :=
  ⟨hb.alloc hb.size _, by rw [Go.heap_alloc_old wr _ (Array.getElem?_eq_some_iff.1 hr).1]; exact hr, s, set_start s f n h0 h1, heap_alloc_new wr _⟩
theorem bwd_step {w wr : World} {s : Int} {f : Nat → Int} {n : Nat} {x y : Int} {M k : Nat} (hM : w.heap.size < M) (hb : Below w.heap.size w wr) (hr : wr.heap[w.heap.size]? = some (.cells #[.int .u8 x] 30))
    (hy : IsSet s f (k + 1) n y) (hry : wr.heap[M]? = some (.cells #[.int .u8 y] 30)) (hn : k < n) (hf : 0 ≤ f k) : Bwd w s f n x M k (wr.setCell ⟨M, 0, none⟩ (.int .u8 (addL y (f k)))).drew :=
  ⟨(hb.setCell (by show w.heap.size ≤ M; omega) _).drew, by show (wr.setCell _ _).heap[_]? = _; rw [heap_setCell_other _ _ _ _ (by show w.heap.size ≠ M; omega)]; exact hr, _, set_down hy hn hf, heap_setCell_same wr _ 0 _ 30 _ hry⟩

theorem shr_bit (x : Int) (v : Nat) (h0 : 0 ≤ x) (h1 : x ≤ 255) : (bits BinOp.and IntKind.u8 (x / 2 ^ v) 1 == 1) = bitB x v := by
  have hp : (0 : Int) < 2 ^ v := Int.pow_pos (by omega)
  have d0 : 0 ≤ x / 2 ^ v := Int.ediv_nonneg h0 (by omega)
  have d1 : x / 2 ^ v ≤ x := Int.ediv_le_self _ h0
  rw [u8_and _ 1 d0 (by omega) (by omega) (by omega)]
  unfold bitB
  obtain ⟨n, hn⟩ := Int.eq_ofNat_of_zero_le d0
  rw [hn, Int.toNat_natCast, show (1 : Int).toNat = 1 from rfl, Nat.and_one_is_mod, Bool.eq_iff_iff]
  simp only [beq_iff_eq, decide_eq_true_eq]
  omega
theorem all_up {f : Nat → Int} {k : Nat} (h : ∀ j, j < k → 0 ≤ f j) (hk : ¬ f k < 0) (j : Nat) (hj : j < k + 1) : 0 ≤ f j := by
  by_cases e : j = k
  · subst e; omega
  · exact h j (by omega)

set_option maxHeartbeats 1000000 in
set_option maxRecDepth 20000 in
theorem walk3 (s : Int) (a : Option Addr) (len cap : Nat) (f : Nat → Int) (w : World) (s0 : 0 ≤ s) (s1 : s ≤ 255)
    (ha : 0 < len → ∃ b off, a = some ⟨b, off, none⟩ ∧ b < w.heap.size ∧ ∀ i, i < len → w.cell? ⟨b, off + i, none⟩ = some (.int .i64 (f i))) (hlen : len ≤ 65536) :
    Calls Try.prog 3 #[.int .u8 s, .slice a len cap] w fun e w' => e = .returned (.bool true) ∧ Below w.heap.size w w' := by
  have HA := hide ha
  clear ha
  go_enter Try.func3, Try.ntmps3
  go_wp2_with (go_at_call 4; refine (small4 _ _ _ _ (by omega) _).mono ?_; rintro e w' ⟨rfl, hw⟩; have hw2 := hw.symm; subst hw2; clear hw)
  go_loop [5] (fun i => ∃ k : Nat, k ≤ len ∧ i = .int .i64 k ∧ ∀ j, j < k → 0 ≤ f j) (fun i => len - (intOf i).toNat)
  case atStart => exact ⟨0, by omega, rfl, fun j hj => by omega⟩
  case round =>
    obtain ⟨k, hk, rfl, hn⟩ := hrel
    have HN := hide hn
    clear hn
    by_cases hlt : k < len
    · obtain ⟨b, off, rfl, hb, hc⟩ := HA.out (by omega)
      have hcell := hc k hlt
      clear hc
      by_cases hneg : f k < 0
      · go_wp2
        go_ret
        exact ⟨rfl, Below.refl _ _⟩
      · go_wp2
        go_round
        case rel => exact ⟨k + 1, by omega, by go_num, all_up HN.out hneg⟩
        case measure => simp [intOf]; omega
    · obtain rfl : len = k := by omega
      go_wp2_with (go_at_call 5; refine (new5 _ _).mono ?_; rintro e w' ⟨rfl, rfl⟩)
      have HF := hide (fwd_start w s f s0 s1)
      go_loopw [7] (fun i wr => ∃ k : Nat, k ≤ len ∧ i = .int .i64 k ∧ Fwd w s f k wr) (fun i _ => len - (intOf i).toNat)
      case atStart => exact ⟨0, by omega, rfl, HF.out⟩
      case round =>
        clear HF
        obtain ⟨k, hk2, rfl, hbel, x, hx, hr⟩ := hrel
        have HB := hide hbel
        have HX := hide hx
        have HR := hide hr
        have hcx := cell_of_one hr
        have hfx := frozen_of_row wr w.heap.size 0 _ 30 hr
        clear hbel hx hr
        by_cases hlt2 : k < len
        · obtain ⟨b, off, rfl, hb, hc⟩ := HA.out (by omega)
          have hcell : wr.cell? ⟨b, off + k, none⟩ = some (.int .i64 (f k)) := (HB.out.cell hb).trans (hc k hlt2)
          clear hc
          have hfk := HN.out k hlt2
          go_wp2_with (go_at_call 6; refine (add6 _ x (f k) hfk _ hcx hfx).mono ?_; rintro e w' ⟨rfl, rfl⟩)
          go_roundw
          case rel => exact ⟨k + 1, by omega, by go_num, fwd_step HB.out HX.out HR.out hfk⟩
          case measure => simp [intOf]; omega
        · obtain rfl : len = k := by omega
          go_wp2_with (go_at_call 5; refine (new5 _ _).mono ?_; rintro e w' ⟨rfl, rfl⟩)
          have hs0 := bwd_start (f := f) (n := len) s0 s1 HB.out HR.out
          have hM0 : w.heap.size < wr.heap.size := (Array.getElem?_eq_some_iff.1 HR.out).1
          obtain ⟨M, hM⟩ : ∃ M, wr.heap.size = M := ⟨_, rfl⟩
          rw [hM] at hs0 hM0 ⊢
          clear hM HB HR hcx hfx
          have HS := hide hs0
          clear hs0
          go_loopw [9] (fun i wr => (∃ j : Nat, j < len ∧ i = .int .i64 j ∧ Bwd w s f len x M (j + 1) wr) ∨ (i = .int .i64 (-1) ∧ Bwd w s f len x M 0 wr)) (fun i _ => (intOf i + 1).toNat)
          case atStart =>
            by_cases h0 : len = 0
            · exact Or.inr ⟨by subst h0; rfl, by have := HS.out; rw [h0] at this ⊢; exact this⟩
            · exact Or.inl ⟨len - 1, by omega, by go_num, by rw [show len - 1 + 1 = len by omega]; exact HS.out⟩
          case round =>
            clear HS
            rcases hrel with ⟨j, hj, rfl, hbel, hr, y, hy, hry⟩ | ⟨rfl, hbel, hr, y, hy, hry⟩
            · have HB := hide hbel
              have HY := hide hy
              have HR := hide hr
              have HRY := hide hry
              have hcx := cell_of_one hry
              have hfx := frozen_of_row wr M 0 _ 30 hry
              clear hbel hy hr hry
              obtain ⟨b, off, rfl, hb, hc⟩ := HA.out (by omega)
              have hcell : wr.cell? ⟨b, off + j, none⟩ = some (.int .i64 (f j)) := (HB.out.cell hb).trans (hc j hj)
              clear hc
              have hfk := HN.out j hj
              go_wp2_with (go_at_call 6; refine (add6 _ y (f j) hfk _ hcx hfx).mono ?_; rintro e w' ⟨rfl, rfl⟩)
              go_roundw
              case rel =>
                have hst := bwd_step hM0 HB.out HR.out HY.out HRY.out hj hfk
                by_cases h0 : j = 0
                · subst h0; exact Or.inr ⟨rfl, hst⟩
                · exact Or.inl ⟨j - 1, by omega, by go_num, by rw [show j - 1 + 1 = j by omega]; exact hst⟩
              case measure => simp [intOf]
            · obtain rfl : x = y := set_one HX.out hy
              have hc1 := cell_of_one hr
              have hc2 := cell_of_one hry
              have HB := hide hbel
              clear hbel hy hr hry
              go_wp2_with fail
              refine (val7 _ x _ hc1).mono ?_
              rintro e w' ⟨rfl, hw⟩
              have hw2 := hw.symm
              subst hw2
              clear hw
              go_wp2_with fail
              refine (val7 _ x _ hc2).mono ?_
              rintro e w' ⟨rfl, hw⟩
              have hw2 := hw.symm
              subst hw2
              clear hw hc1 hc2
              go_wp2_with fail
              go_loop [11] (fun i => ∃ v : Nat, v ≤ 8 ∧ i = .int .i64 v) (fun i => 8 - (intOf i).toNat)
              case atStart => exact ⟨0, by omega, rfl⟩
              case round =>
                obtain ⟨v, hv, rfl⟩ := hrel
                by_cases hv8 : v < 8
                · have hshs := shr_bit s v s0 s1
                  have HE := hide fun k B hk g hB => (shr_bit x v HX.out.1 HX.out.2.1).trans (seen_end (k := k) (B := B) HX.out hv8 hk g hB)
                  go_wp2_with fail
                  clear hshs
                  try rw [show decide ((v : Int) < 8) = true from decide_eq_true (by omega)]
                  go_loop [12, 13] (fun t i => ∃ (k : Nat) (B : Bool), k ≤ len ∧ i = .int .i64 k ∧ t = .bool B ∧ Seen s f v k B) (fun _ i => len - (intOf i).toNat)
                  case atStart => exact ⟨0, _, by omega, rfl, rfl, seen_start s f v⟩
                  case round =>
                    obtain ⟨k, B, hk3, rfl, rfl, hse⟩ := hrel
                    have HSE := hide hse
                    clear hse
                    cases B
                    · by_cases hlt3 : k < len
                      · obtain ⟨b, off, rfl, hb, hc⟩ := HA.out (by omega)
                        have hcell : wr.cell? ⟨b, off + k, none⟩ = some (.int .i64 (f k)) := (HB.out.cell hb).trans (hc k hlt3)
                        clear hc
                        by_cases he : f k = (v : Int)
                        · have hq : (f k == (v : Int)) = true := by simp [he]
                          have HQ := hide he
                          clear he
                          go_wp2_with fail
                          go_round
                          case rel => exact ⟨k + 1, _, by omega, by go_num, rfl, seen_hit HQ.out⟩
                          case measure => simp [intOf]; omega
                        · have hq : (f k == (v : Int)) = false := by simp [he]
                          have HQ := hide he
                          clear he
                          go_wp2_with fail
                          go_round
                          case rel => exact ⟨k + 1, _, by omega, by go_num, rfl, seen_miss HSE.out HQ.out⟩
                          case measure => simp [intOf]; omega
                      · have hbx := HE.out k false hk3 HSE.out (Or.inr (by omega))
                        go_wp2_with fail
                        go_round
                        case rel => exact ⟨v + 1, by omega, by go_num⟩
                        case measure => simp [intOf]; omega
                    · have hbx := HE.out k true hk3 HSE.out (Or.inl rfl)
                      by_cases hlt3 : k < len
                      all_goals
                        go_wp2_with fail
                        go_round
                        case rel => exact ⟨v + 1, by omega, by go_num⟩
                        case measure => simp [intOf]; omega
                · go_wp2
                  go_ret
                  exact ⟨rfl, HB.out⟩

set_option maxHeartbeats 400000 in
theorem walk_mid (s : Int) (a : Option Addr) (len cap : Nat) (w : World) (h1 : 65536 < len) (h2 : len ≤ 1048576) :
    Calls Try.prog 3 #[.int .u8 s, .slice a len cap] w fun e w' => e = .returned (.bool true) ∧ Below w.heap.size w w' := by
  go_enter Try.func3, Try.ntmps3
  go_wp2_with (go_at_call 4; refine (small4 _ _ _ _ h2 _).mono ?_; rintro e w' ⟨rfl, rfl⟩)
  go_ret
  exact ⟨rfl, Below.refl _ _⟩
set_option maxHeartbeats 400000 in
theorem walk_large (s : Int) (a : Option Addr) (len cap : Nat) (w : World) (h1 : 1048576 < len) :
    Calls Try.prog 3 #[.int .u8 s, .slice a len cap] w fun e w' => e = .returned (.bool true) ∧ Below w.heap.size w w' := by
  go_enter Try.func3, Try.ntmps3
  go_wp2_with (go_at_call 4; refine (large4 _ _ _ _ h1 _).mono ?_; rintro e w' ⟨rfl, rfl⟩)
  go_ret
  exact ⟨rfl, Below.refl _ _⟩
end Go.Proofs.Qxb6613307a
