/-
  A proof of 'Rows.FnNotInCodeASCIICaseFreeSixtyFourSaid'. The frame is the given shell's; the plain function, the contracts of the three callees and the walk are this seat's.
-/
import Derived.Test.Qxb6614005aRows
import Derived.WalkKit
import Derived.ProofKit
import Derived.OpenShut
import Derived.ShutString
namespace Go.Proofs.Qxb6614005a.fnNotInCodeASCIICaseFreeSixtyFour
open Go.ChangeShapes Go.WideShapes Go.ChangeAt Go.RowKit
open Go.ChangeMaps (open_string shut_string)
set_option linter.unusedVariables false      -- a walk need not use every 'w<i>' (that an integer argument fits its kind)

theorem own : ownKnob Try.prog.godebug = none := by kernel_rfl

/-! ### STEP 1: THE WALK: the Go text returns true. 'Grown w w'': the world has at most new blocks (Derived/RowKit3.lean). Part the cases AHEAD of 'go_enter' where a test parts the walk; take each callee by a contract of your own. -/
/-- THE PLAIN FUNCTION: is the rune no code character? -/
def outB (r : Int) : Bool := !decide ((65 ≤ r ∧ r ≤ 90) ∨ (97 ≤ r ∧ r ≤ 122) ∨ (48 ≤ r ∧ r ≤ 57) ∨ r = 45 ∨ r = 95)
/-- how many of the first k runes are code characters -/
def cnt : Nat → Nat
  | 0 => 0
  | k + 1 => cnt k + (if outB (k : Int) = true then 0 else 1)
theorem cnt_le : ∀ k, cnt k ≤ k
  | 0 => Nat.le_refl _
  | k + 1 => by have := cnt_le k; simp only [cnt]; split <;> omega
theorem cnt_in (k : Nat) (h : outB (k : Int) = false) : cnt (k + 1) = cnt k + 1 := by simp [cnt, h]
theorem cnt_out (k : Nat) (h : outB (k : Int) = true) : cnt (k + 1) = cnt k := by simp [cnt, h]
theorem cnt_all : cnt 128 = 64 := by decide +kernel
def up (r : Int) : Int := if 97 ≤ r ∧ r ≤ 122 then r - 32 else r
def lo (r : Int) : Int := if 65 ≤ r ∧ r ≤ 90 then r + 32 else r
theorem out_up (r : Int) : outB (up r) = outB r := by
  unfold up outB; congr 1; rw [decide_eq_decide]; split <;> omega
theorem out_lo (r : Int) : outB (lo r) = outB r := by
  unfold lo outB; congr 1; rw [decide_eq_decide]; split <;> omega
theorem out_far (r : Int) (h : r < 0 ∨ 128 ≤ r) : outB r = true := by
  unfold outB; simp; omega
theorem ret_b {a b : Bool} (h : a = b) : Ending.returned (.bool a) = .returned (.bool b) := by rw [h]
theorem ret_i {k : IntKind} {a b : Int} (h : a = b) : Ending.returned (.int k a) = .returned (.int k b) := by rw [h]

set_option maxHeartbeats 400000 in
theorem nic (r : Int) (w : World) :
    Calls Try.prog 8 #[.int .i32 r] w fun e w' => e = .returned (.bool (outB r)) ∧ w' = w := by
  go_enter Try.func8, Try.ntmps8
  go_wp2
  all_goals
    go_ret
    refine ⟨ret_b ?_, rfl⟩
    rw [Bool.eq_iff_iff]; simp [outB]; try omega

set_option maxHeartbeats 400000 in
theorem upper (r : Int) (w0 : (Lit.int .i32 r).wf = true) (w : World) :
    Calls Try.prog 9 #[.int .i32 r] w fun e w' => e = .returned (.int .i32 (up r)) ∧ w' = w := by
  have hb := bounds_i32 w0
  go_enter Try.func9, Try.ntmps9
  go_wp2
  all_goals
    go_ret
    refine ⟨ret_i ?_, rfl⟩
    unfold up
    first | (rw [if_pos (by omega)]; done) | (rw [if_neg (by omega)]; done)

set_option maxHeartbeats 400000 in
theorem lower (r : Int) (w0 : (Lit.int .i32 r).wf = true) (w : World) :
    Calls Try.prog 10 #[.int .i32 r] w fun e w' => e = .returned (.int .i32 (lo r)) ∧ w' = w := by
  have hb := bounds_i32 w0
  go_enter Try.func10, Try.ntmps10
  go_wp2
  all_goals
    go_ret
    refine ⟨ret_i ?_, rfl⟩
    unfold lo
    first | (rw [if_pos (by omega)]; done) | (rw [if_neg (by omega)]; done)

set_option maxHeartbeats 400000 in
set_option maxRecDepth 20000 in
theorem walk (a0 : Int) (w0 : (Lit.int .i32 a0).wf = true) (w : World) :
    Calls Try.prog 3 #[.int .i32 a0] w fun e w' => e = .returned (.bool true) ∧ Grown w w' := by
  have hu : outB (up a0) = outB a0 := out_up a0
  have hl : outB (lo a0) = outB a0 := out_lo a0
  have hfar := out_far a0
  by_cases hc : a0 < 0 ∨ 128 ≤ a0
  · have ho := hfar hc
    clear hfar
    go_enter Try.func3, Try.ntmps3
    go_wp2_with (first | (go_at_call 8; refine (nic _ _).mono ?_; rintro e w' ⟨rfl, rfl⟩) | (go_at_call 9; refine (upper _ w0 _).mono ?_; rintro e w' ⟨rfl, rfl⟩) | (go_at_call 10; refine (lower _ w0 _).mono ?_; rintro e w' ⟨rfl, rfl⟩))
    all_goals
      clear hu hl
      go_loop [4, 5] (fun n c => ∃ k : Nat, k ≤ 128 ∧ c = .int .i32 k ∧ n = .int .i64 (cnt k)) (fun _ c => 128 - (intOf c).toNat)
      case atStart => exact ⟨0, by omega, rfl, rfl⟩
      case round =>
        obtain ⟨k, hk, rfl, rfl⟩ := hrel
        have hck := cnt_le k
        by_cases hlt : k < 128
        · cases hout : outB (k : Int)
          · have HS : Hid (cnt (k + 1) = cnt k + 1) := cnt_in k hout
            go_wp2_with (go_at_call 8; refine (nic _ _).mono ?_; rintro e w' ⟨rfl, rfl⟩)
            go_round
            case rel => exact ⟨k + 1, by omega, by go_num, by rw [HS.out]; go_num⟩
            case measure => simp [intOf]; omega
          · have HS : Hid (cnt (k + 1) = cnt k) := cnt_out k hout
            go_wp2_with (go_at_call 8; refine (nic _ _).mono ?_; rintro e w' ⟨rfl, rfl⟩)
            go_round
            case rel => exact ⟨k + 1, by omega, by go_num, by rw [HS.out]⟩
            case measure => simp [intOf]; omega
        · obtain rfl : k = 128 := by omega
          rw [cnt_all]
          go_wp2
          go_ret
          exact ⟨rfl, Grown.refl _⟩
  · clear hfar
    have h1 : 0 ≤ a0 := by omega
    have h2 : a0 < 128 := by omega
    clear hc
    go_enter Try.func3, Try.ntmps3
    go_wp2_with (first | (go_at_call 8; refine (nic _ _).mono ?_; rintro e w' ⟨rfl, rfl⟩) | (go_at_call 9; refine (upper _ w0 _).mono ?_; rintro e w' ⟨rfl, rfl⟩) | (go_at_call 10; refine (lower _ w0 _).mono ?_; rintro e w' ⟨rfl, rfl⟩))
    all_goals
      clear hu hl
      go_loop [4, 5] (fun n c => ∃ k : Nat, k ≤ 128 ∧ c = .int .i32 k ∧ n = .int .i64 (cnt k)) (fun _ c => 128 - (intOf c).toNat)
      case atStart => exact ⟨0, by omega, rfl, rfl⟩
      case round =>
        obtain ⟨k, hk, rfl, rfl⟩ := hrel
        have hck := cnt_le k
        by_cases hlt : k < 128
        · cases hout : outB (k : Int)
          · have HS : Hid (cnt (k + 1) = cnt k + 1) := cnt_in k hout
            go_wp2_with (go_at_call 8; refine (nic _ _).mono ?_; rintro e w' ⟨rfl, rfl⟩)
            go_round
            case rel => exact ⟨k + 1, by omega, by go_num, by rw [HS.out]; go_num⟩
            case measure => simp [intOf]; omega
          · have HS : Hid (cnt (k + 1) = cnt k) := cnt_out k hout
            go_wp2_with (go_at_call 8; refine (nic _ _).mono ?_; rintro e w' ⟨rfl, rfl⟩)
            go_round
            case rel => exact ⟨k + 1, by omega, by go_num, by rw [HS.out]⟩
            case measure => simp [intOf]; omega
        · obtain rfl : k = 128 := by omega
          rw [cnt_all]
          go_wp2
          go_ret
          exact ⟨rfl, Grown.refl _⟩

/-! ### THE ROW's STEP: WRITTEN OUT: LEAVE IT -/
set_option maxRecDepth 100000 in
theorem lifted (os : Os) (started : os.Started) (H : Type) (enc : TypeId × Value → H) :
    ReturnsInHanded {} Try.checked os 3 .any (Rows.fnNotInCodeASCIICaseFreeSixtyFourSpec.pre6 enc Try.prog Try.f3 Rows.fnNotInCodeASCIICaseFreeSixtyFourRow.domain false) (Rows.fnNotInCodeASCIICaseFreeSixtyFourSpec.post enc Try.prog Try.f3 false true false false) := by
  refine returnsInHanded_of_change (C := Try.checked) own started (by kernel_rfl) Try.func3
    (ChangeSpec.witness6 (enc := enc) (C := Try.checked) false ⟨#[], #[.int .i32 0], []⟩ 8 (by kernel_rfl) (by kernel_rfl) (by kernel_rfl) (by kernel_rfl)) ?_
  intro W base args ds gs before hval0 hW hcnd _
  have hval : ∀ (j : Nat) t v, Try.f3.params[j]? = some t → args[j]? = some v → Value.okWide Try.prog W .any base t v := hval0
  have hW' := hW
  obtain ⟨p, q, hA0, hV, rfl, hfz, hnd⟩ := hW
  have hA : DataW.TrodAll enc Try.prog W 0 (fun _ => true) true Try.f3.params.toList args.toList ds p := hA0
  rw [Try.params3] at hA hval
  obtain ⟨v0, vs0, d0, ds0, p0, q0, hargs, rfl, rfl, h0, r0⟩ := trodAll_cons hA
  obtain ⟨rfl, rfl, rfl⟩ := trodAll_nil r0
  obtain rfl : args = #[v0] := by cases args; simp_all
  obtain ⟨rfl, rfl⟩ := trodVars_none hV
  obtain ⟨a0, rfl, rfl, rfl, w0⟩ := open_int Try.underlying21 (hval 0 21 v0 rfl rfl) h0
  clear hA0 hval0
  simp only [List.append_nil] at hW'
  refine (walk a0 w0 W).mono fun e W' ⟨he, hg⟩ => ?_
  subst he
  exact ⟨_, rfl, post_of_same (pa := []) (pv := []) hW' (fun _ _ _ => (trodAll_cons_mk (shut_bool Try.underlying4 _) trodAll_mk0)) (fun sp _ => (trodAll_cons_mk (shut_int Try.underlying21 w0) trodAll_mk0)) (fun _ _ => rfl) rfl
    (hg.frame _) hg.2.1 (ok_one (by kernel_rfl) rfl (okWide_bool_mk Try.underlying4 _))⟩

theorem over : Rows.fnNotInCodeASCIICaseFreeSixtyFourRow.holds Try.pinned (OpenSpec.ofChange Rows.fnNotInCodeASCIICaseFreeSixtyFourSpec) :=
  OpenClaim.holds_of_wide 3 Try.f3 rfl rfl rfl rfl rfl rfl rfl ⟨rfl, rfl, rfl, rfl, rfl⟩ rfl rfl rfl rfl rfl (by kernel_rfl) Try.func3 (by kernel_rfl)
    (of_decide_eq_true (by kernel_rfl)) (by unfold Func.isWrapper; first | (rw [if_pos (by decide +kernel)]; kernel_rfl) | (rw [if_neg (by decide +kernel)]; exact ⟨rfl, rfl⟩))
    (fun os started H enc _ => lifted os started H enc)

/-- ████ THE STATEMENT ████ -/
theorem proved : Rows.FnNotInCodeASCIICaseFreeSixtyFourSaid :=
  over
#print axioms proved
end Go.Proofs.Qxb6614005a.fnNotInCodeASCIICaseFreeSixtyFour
