/-
  Seat b6613192a: closed facts on the floats of FnDefaultWatchSettingsAreFreshAndAsDocumented, reckoned by the kernel; a store of a float; two pointers to two rows.
-/
import Derived.Test.Qxb6613192aRows
import Derived.WalkKit
import Derived.ProofKit
import Derived.OpenShut
import Derived.WalkLawsBesides
import Derived.LaidEqlPtr
namespace Go.Proofs.Qxb6613192a
open Go.ChangeShapes Go.WideShapes Go.ChangeAt Go.RowKit

theorem run_store_float {P : Program} {w : World} {a : Addr} {m : Mode} (k : FloatKind) (b : Nat) : (store a (.float k b) m).run P w = stored P w a (.float k b) m := run_store P w a _ m rfl

theorem o0 : FloatKind.f64.format.order 4596373779694328218 4596373779694328218 = some .eq := by decide +kernel
theorem o1 : FloatKind.f64.format.order 4607182418800017408 4607182418800017408 = some .eq := by decide +kernel
theorem o2 : FloatKind.f64.format.order 4620693217682128896 4620693217682128896 = some .eq := by decide +kernel
theorem o3 : FloatKind.f64.format.order 4612811918334230528 4612811918334230528 = some .eq := by decide +kernel
theorem o4 : FloatKind.f64.format.order 4640537203540230144 4640537203540230144 = some .eq := by decide +kernel
theorem o5 : FloatKind.f64.format.order 4607092346807469998 4607092346807469998 = some .eq := by decide +kernel
theorem o6 : FloatKind.f64.format.order 4660134898793709568 4660134898793709568 = some .eq := by decide +kernel
theorem o7 : FloatKind.f64.format.order 4666173416653455360 4666173416653455360 = some .eq := by decide +kernel
theorem o8 : FloatKind.f64.format.order 4655631299166339072 4655631299166339072 = some .eq := by decide +kernel
theorem o9 : FloatKind.f64.format.order 4581710059307609883 4581710059307609883 = some .eq := by decide +kernel
theorem o10 : FloatKind.f64.format.order 4680673776000565248 4680673776000565248 = some .eq := by decide +kernel
theorem o11 : FloatKind.f64.format.order 4633641066610819072 4633641066610819072 = some .eq := by decide +kernel
theorem o12 : FloatKind.f64.format.order 4646096334330265600 4646096334330265600 = some .eq := by decide +kernel
theorem o13 : FloatKind.f64.format.order 4629137466983448576 4629137466983448576 = some .eq := by decide +kernel
theorem o14 : FloatKind.f64.format.order 4621819117588971520 4621819117588971520 = some .eq := by decide +kernel
theorem o15 : FloatKind.f64.format.order 4607182418800017408 4620693217682128896 = some .lt := by decide +kernel
theorem o16 : FloatKind.f64.format.order 4612811918334230528 0 = some .gt := by decide +kernel
theorem o17 : FloatKind.f64.format.order 4612811918334230528 4613937818241073152 = some .lt := by decide +kernel
theorem o18 : FloatKind.f64.format.order 4613037098315599053 4613037098317850853 = some .lt := by decide +kernel
theorem o19 : FloatKind.f64.format.order 4576918229304087680 4576918171658012445 = some .gt := by decide +kernel
theorem o20 : FloatKind.f64.format.order 4576918229304087680 4576918286950162905 = some .lt := by decide +kernel
theorem o21 : FloatKind.f64.format.order 4581710059307609883 0 = some .gt := by decide +kernel
theorem o22 : FloatKind.f64.format.order 4581710059307609883 4607182418800017408 = some .lt := by decide +kernel
theorem o23 : FloatKind.f64.format.order 4611686018427387904 4607182418800017408 = some .gt := by decide +kernel
theorem r0 (w : World) : (binOp .mul 22 (.float .f64 4612811918334230528) (.float .f64 4607182418800017408)).run Try.prog w = .ok (.float .f64 4612811918334230528) w := run_float_arith w .mul 22 .f64 _ _ _ (by decide +kernel)
theorem r1 (w : World) : (binOp .quo 22 (.float .f64 4607182418800017408) (.float .f64 4621819117588971520)).run Try.prog w = .ok (.float .f64 4591870180066957722) w := run_float_arith w .quo 22 .f64 _ _ _ (by decide +kernel)
theorem r2 (w : World) : (binOp .add 22 (.float .f64 4612811918334230528) (.float .f64 4591870180066957722)).run Try.prog w = .ok (.float .f64 4613037098315599053) w := run_float_arith w .add 22 .f64 _ _ _ (by decide +kernel)
theorem r3 (w : World) : (binOp .sub 22 (.float .f64 4607182418800017408) (.float .f64 4607092346807469998)).run Try.prog w = .ok (.float .f64 4576918229304087680) w := run_float_arith w .sub 22 .f64 _ _ _ (by decide +kernel)
theorem r4 (w : World) : (binOp .add 22 (.float .f64 0) (.float .f64 4607182418800017408)).run Try.prog w = .ok (.float .f64 4607182418800017408) w := run_float_arith w .add 22 .f64 _ _ _ (by decide +kernel)
theorem r5 (w : World) : (binOp .mul 22 (.float .f64 4633641066610819072) (.float .f64 4607182418800017408)).run Try.prog w = .ok (.float .f64 4633641066610819072) w := run_float_arith w .mul 22 .f64 _ _ _ (by decide +kernel)
theorem r6 (w : World) : (binOp .mul 22 (.float .f64 4607182418800017408) (.float .f64 4611686018427387904)).run Try.prog w = .ok (.float .f64 4611686018427387904) w := run_float_arith w .mul 22 .f64 _ _ _ (by decide +kernel)
theorem r7 (w : World) : (binOp .add 22 (.float .f64 4607182418800017408) (.float .f64 4611686018427387904)).run Try.prog w = .ok (.float .f64 4613937818241073152) w := run_float_arith w .add 22 .f64 _ _ _ (by decide +kernel)
theorem r8 (w : World) : (binOp .mul 22 (.float .f64 4633641066610819072) (.float .f64 4613937818241073152)).run Try.prog w = .ok (.float .f64 4640537203540230144) w := run_float_arith w .mul 22 .f64 _ _ _ (by decide +kernel)
theorem r9 (w : World) : (binOp .mul 22 (.float .f64 4611686018427387904) (.float .f64 4611686018427387904)).run Try.prog w = .ok (.float .f64 4616189618054758400) w := run_float_arith w .mul 22 .f64 _ _ _ (by decide +kernel)
theorem r10 (w : World) : (binOp .add 22 (.float .f64 4613937818241073152) (.float .f64 4616189618054758400)).run Try.prog w = .ok (.float .f64 4619567317775286272) w := run_float_arith w .add 22 .f64 _ _ _ (by decide +kernel)
theorem r11 (w : World) : (binOp .mul 22 (.float .f64 4633641066610819072) (.float .f64 4619567317775286272)).run Try.prog w = .ok (.float .f64 4646096334330265600) w := run_float_arith w .mul 22 .f64 _ _ _ (by decide +kernel)
theorem r12 (w : World) : (binOp .mul 22 (.float .f64 4616189618054758400) (.float .f64 4611686018427387904)).run Try.prog w = .ok (.float .f64 4620693217682128896) w := run_float_arith w .mul 22 .f64 _ _ _ (by decide +kernel)
theorem r13 (w : World) : (binOp .sub 22 (.float .f64 4620693217682128896) (.float .f64 4607182418800017408)).run Try.prog w = .ok (.float .f64 4619567317775286272) w := run_float_arith w .sub 22 .f64 _ _ _ (by decide +kernel)
theorem r14 (w : World) : (binOp .sub 22 (.float .f64 4611686018427387904) (.float .f64 4607182418800017408)).run Try.prog w = .ok (.float .f64 4607182418800017408) w := run_float_arith w .sub 22 .f64 _ _ _ (by decide +kernel)
theorem r15 (w : World) : (binOp .quo 22 (.float .f64 4646096334330265600) (.float .f64 4607182418800017408)).run Try.prog w = .ok (.float .f64 4646096334330265600) w := run_float_arith w .quo 22 .f64 _ _ _ (by decide +kernel)
theorem r16 (w : World) : (binOp .quo 22 (.float .f64 4702820688963043328) (.float .f64 4680673776000565248)).run Try.prog w = .ok (.float .f64 4629137466983448576) w := run_float_arith w .quo 22 .f64 _ _ _ (by decide +kernel)

/-- block g is a row of cells, none of them frozen -/
def isRow (w : World) (g : Nat) : Bool := match w.heap[g]? with | some (.cells _ _ fr) => fr == (0, 0) | _ => false
theorem isRow_alloc (w : World) (c : Array Value) (t : TypeId) (g : Nat) : isRow (w.alloc (.cells c t)) g = (decide (g = w.heap.size) || isRow w g) := by
  unfold isRow
  by_cases h : g = w.heap.size
  · subst h; rw [heap_alloc_new w _]; simp
  · have e : (w.alloc (.cells c t)).heap[g]? = w.heap[g]? := by
      show (w.heap.push _)[g]? = _
      rw [Array.getElem?_push, if_neg h]
    rw [e]; simp [h]
theorem row_of {w : World} {g : Nat} (h : isRow w g = true) : ∃ c t, w.heap[g]? = some (.cells c t (0, 0)) := by
  unfold isRow at h
  cases hh : w.heap[g]? with
  | none => simp [hh] at h
  | some o =>
    cases o with
    | cells c t fr => simp [hh] at h; exact ⟨c, t, by rw [h]⟩
    | _ => simp [hh] at h
theorem info33 : ∃ j, Try.prog.info? 33 = some j ∧ j.size ≠ 0 := by
  have h : (Try.prog.info? 33).map (·.size) = some 9 := by kernel_rfl
  cases hq : Try.prog.info? 33 with
  | none => simp [hq] at h
  | some j => simp [hq] at h; exact ⟨j, rfl, by omega⟩
theorem info35 : ∃ j, Try.prog.info? 35 = some j ∧ j.size ≠ 0 := by
  have h : (Try.prog.info? 35).map (·.size) = some 3 := by kernel_rfl
  cases hq : Try.prog.info? 35 with
  | none => simp [hq] at h
  | some j => simp [hq] at h; exact ⟨j, rfl, by omega⟩
theorem eql27 (w : World) (g h : Nat) (h1 : g ≠ h) (h2 : isRow w g = true) (h3 : isRow w h = true) :
    (binOp .eql 27 (.pointer (some ⟨g, 0, none⟩)) (.pointer (some ⟨h, 0, none⟩))).run Try.prog w = .ok (.bool false) w := by
  obtain ⟨j, hj, hs⟩ := info33
  obtain ⟨c, t, hc⟩ := row_of h2
  obtain ⟨c', t', hc'⟩ := row_of h3
  exact run_eql_ptr_other w Try.underlying27 hj hs (by intro e; injection e with e1; exact h1 e1) hc hc'
theorem eql28 (w : World) (g h : Nat) (h1 : g ≠ h) (h2 : isRow w g = true) (h3 : isRow w h = true) :
    (binOp .eql 28 (.pointer (some ⟨g, 0, none⟩)) (.pointer (some ⟨h, 0, none⟩))).run Try.prog w = .ok (.bool false) w := by
  obtain ⟨j, hj, hs⟩ := info35
  obtain ⟨c, t, hc⟩ := row_of h2
  obtain ⟨c', t', hc'⟩ := row_of h3
  exact run_eql_ptr_other w Try.underlying28 hj hs (by intro e; injection e with e1; exact h1 e1) hc hc'
theorem four_more (n : Nat) : ¬ n + 1 + 1 + 1 + 1 = n := by omega
end Go.Proofs.Qxb6613192a
