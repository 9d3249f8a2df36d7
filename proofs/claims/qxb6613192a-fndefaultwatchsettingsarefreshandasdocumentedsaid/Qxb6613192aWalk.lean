/-
  Seat b6613192a: the walk of FnDefaultWatchSettingsAreFreshAndAsDocumented: the contracts of its three callees, then the law itself, round by round.
-/
import Derived.Test.Qxb6613192aFacts
import Derived.Deep.QuietTactic
import Derived.BigQuiet
import Derived.LoopN
namespace Go.Proofs.Qxb6613192a
open Go.ChangeShapes Go.WideShapes Go.ChangeAt Go.RowKit
attribute [local go_sem] run_store_float isRow_alloc four_more eql27 eql28 o0 o1 o2 o3 o4 o5 o6 o7 o8 o9 o10 o11 o12 o13 o14 o15 o16 o17 o18 o19 o20 o21 o22 o23 r0 r1 r2 r3 r4 r5 r6 r7 r8 r9 r10 r11 r12 r13 r14 r15 r16

theorem grown_drewN {w w' : World} (h : Grown w w') (n : Nat) : Grown w (w'.drewN n) := h

set_option maxHeartbeats 400000 in
theorem heal_any (w : World) :
    Calls Try.prog 6 #[] w fun e w' => e = .returned (.pointer (some ⟨w.heap.size, 0, none⟩)) ∧ w' = w.alloc (.cells #[.float .f64 4633641066610819072, .float .f64 4611686018427387904, .int .i64 3] 35) := by
  go_enter Try.func6, Try.ntmps6
  go_wp2
  go_ret
  exact ⟨rfl, rfl⟩
set_option maxHeartbeats 400000 in
theorem cold_any (a b : Nat) (w : World) :
    Calls Try.prog 5 #[.float .f64 a, .float .f64 b] w fun e w' => e = .returned (.pointer (some ⟨w.heap.size, 0, none⟩)) ∧
      w' = w.alloc (.cells #[.float .f64 4640537203540230144, .float .f64 a, .float .f64 b, .int .i64 50, .int .i64 4, .float .f64 4666173416653455360, .float .f64 4655631299166339072, .float .f64 4581710059307609883, .float .f64 4680673776000565248] 33) := by
  go_enter Try.func5, Try.ntmps5
  go_wp2
  go_ret
  exact ⟨rfl, rfl⟩

def cold : Array Value := #[.float .f64 4640537203540230144, .float .f64 4607092346807469998, .float .f64 4660134898793709568, .int .i64 50, .int .i64 4, .float .f64 4666173416653455360, .float .f64 4655631299166339072, .float .f64 4581710059307609883, .float .f64 4680673776000565248]
def heal : Array Value := #[.float .f64 4633641066610819072, .float .f64 4611686018427387904, .int .i64 3]
def sets (p q : Nat) : Array Value := #[.float .f64 4596373779694328218, .float .f64 4607182418800017408, .float .f64 4620693217682128896, .int .i64 100, .float .f64 4607182418800017408, .float .f64 4612811918334230528, .pointer (some ⟨p, 0, none⟩), .pointer (some ⟨q, 0, none⟩), .int .i64 100000, .float .f64 4702820688963043328, .float .f64 4621819117588971520]

set_option maxHeartbeats 400000 in
theorem def_any (w : World) :
    Calls Try.prog 4 #[] w fun e w' => e = .returned (.agg (sets (w.heap.size + 1) (w.heap.size + 1 + 1))) ∧
      w' = ((w.alloc (.cells (sets (w.heap.size + 1) (w.heap.size + 1 + 1)) 30)).alloc (.cells cold 33)).alloc (.cells heal 35) := by
  go_enter Try.func4, Try.ntmps4
  go_wp2_with (first | (go_at_call 5; refine (cold_any _ _ _).mono ?_; rintro e w' ⟨rfl, rfl⟩) | (go_at_call 6; refine (heal_any _).mono ?_; rintro e w' ⟨rfl, rfl⟩))
  exact bodyPost_ret (v := .agg (sets (w.heap.size + 1) (w.heap.size + 1 + 1))) (by simp [results, Try.results4, go_sem, sets]) rfl ⟨rfl, rfl⟩

set_option maxHeartbeats 1000000 in
set_option maxRecDepth 20000 in
theorem walk (w : World) :
    Calls Try.prog 3 #[] w fun e w' => e = .returned (.bool true) ∧ Grown w w' := by
  go_enter Try.func3, Try.ntmps3
  go_wp2_with (fail)
  refine (def_any _).mono ?_
  rintro e w' ⟨rfl, rfl⟩
  unfold sets cold heal
  go_wp2_with (fail)
  refine (def_any _).mono ?_
  rintro e w' ⟨rfl, rfl⟩
  unfold sets cold heal
  go_wp2_with (fail)
  refine wp_loop_rounds 4 ?_
  rw [rounds_succ]
  go_wp2_with (fail)
  go_quiet (fail)
  go_wp2_with (fail)
  rw [rounds_succ]
  go_wp2_with (fail)
  go_quiet (fail)
  go_wp2_with (fail)
  rw [rounds_succ]
  go_wp2_with (fail)
  go_quiet (fail)
  go_wp2_with (fail)
  rw [rounds_succ]
  go_wp2_with (fail)
  go_quiet (fail)
  go_wp2_with (fail)
  go_ret
  refine ⟨rfl, ?_⟩
  refine grown_drewN ?_ _
  repeat (first | exact Grown.refl _ | apply Grown.alloc)
end Go.Proofs.Qxb6613192a
