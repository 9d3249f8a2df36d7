/-
  Seat b6614077a: what both laws share: the contract of (Buckets).Has; a whole array of 32 octets, loaded and stored as one operation.
-/
import Derived.Test.Qxb6614077aRows
import Derived.WalkKit
import Derived.ProofKit
import Derived.OpenShut
import Derived.Deep.WholeRow
namespace Go.Proofs.Qxb6614077a
open Go.ChangeShapes Go.WideShapes Go.ChangeAt Go.RowKit

/-- bit j of x -/
def bitB (x : Int) (j : Nat) : Bool := decide (x / 2 ^ j % 2 = 1)
theorem ret_b {a b : Bool} (h : a = b) : Ending.returned (.bool a) = .returned (.bool b) := by rw [h]
theorem bit_and (x : Int) (j : Nat) (x0 : 0 ≤ x) (x1 : x ≤ 255) (hj : j < 8) : (bits BinOp.and IntKind.u8 x (2 ^ j % 256) != 0) = bitB x j := by
  have h := u8_bit_test_var x (j : Int) x0 (by omega)
  have e : min (j : Int).toNat 8 = j := by omega
  rw [e, Int.toNat_natCast] at h
  rw [u8_and x _ x0 (by omega) (by omega) (by omega)]
  unfold bitB
  rw [Bool.eq_iff_iff]
  simp only [bne_iff_ne, decide_eq_true_eq, ne_eq]
  rw [h]
  have : (j : Int) < 8 := by omega
  simp [this]

set_option maxHeartbeats 400000 in
theorem has_any (cs : Array Value) (x k : Int) (h0 : 0 ≤ k) (h1 : k ≤ 255) (x0 : 0 ≤ x) (x1 : x ≤ 255) (hv : cs[(k / 8).toNat]? = some (.int .u8 x)) (w : World) :
    Calls Try.prog 5 #[.agg cs, .int .u8 k] w fun e w' => e = .returned (.bool (bitB x (k % 8).toNat)) ∧ w' = w.alloc (.cells cs 23) := by
  go_enter Try.func5, Try.ntmps5
  go_wp2
  go_ret
  exact ⟨ret_b (bit_and x _ x0 x1 (by omega)), rfl⟩

/-! ### A whole array as one operation -/
/-- the row of cells that block g holds -/
def rowAt (w : World) (g : Nat) : Array Value := match w.heap[g]? with | some (.cells c _ _) => c | _ => #[]
/-- block g is a row of 32 cells, none of them frozen -/
def okRow (w : World) (g : Nat) : Bool := match w.heap[g]? with | some (.cells c _ fr) => c.size == 32 && fr == (0, 0) | _ => false
def ptrOf : Value → Nat | .pointer (some a) => a.block | _ => 0
def ptrB : Value → Bool | .pointer (some a) => a.off == 0 && a.spot.isNone | _ => false

theorem ptr_form {v : Value} (h : ptrB v = true) : v = .pointer (some ⟨ptrOf v, 0, none⟩) := by
  cases v with
  | pointer o =>
    cases o with
    | none => simp [ptrB] at h
    | some a =>
      obtain ⟨b, o, s⟩ := a
      simp [ptrB] at h
      obtain ⟨rfl, rfl⟩ := h
      rfl
  | _ => simp [ptrB] at h
theorem row_form {w : World} {g : Nat} (h : okRow w g = true) : ∃ t, w.heap[g]? = some (.cells (rowAt w g) t (0, 0)) ∧ (rowAt w g).size = 32 := by
  unfold okRow at h
  unfold rowAt
  cases hh : w.heap[g]? with
  | none => simp [hh] at h
  | some o =>
    cases o with
    | cells c t fr => simp [hh] at h ⊢; exact ⟨h.2, h.1⟩
    | _ => simp [hh] at h
theorem info22 : (Try.prog.info? 22).map (·.size) = some 32 := by kernel_rfl
theorem info23 : (Try.prog.info? 23).map (·.size) = some 32 := by kernel_rfl

theorem wp_ld22 {a : Act} {w : World} {K : Act → World → Prop} {Q : Exit → Act → World → Prop} {dst : Option Tmp} {n : Tmp} {ty : TypeId} {pos : String} {af : Array Edge} {gd : Option (Nat × Bool)}
    (h1 : ptrB (a.eval (.tmp n)) = true) (h2 : okRow w (ptrOf (a.eval (.tmp n))) = true) :
    Oper.wp Try.prog ⟨dst, .load 22 (.tmp n), ty, pos, af, gd⟩ a w K Q = K (a.put dst (.agg (rowAt w (ptrOf (a.eval (.tmp n)))))) w := by
  obtain ⟨t, hr, hs⟩ := row_form h2
  have e := ptr_form h1
  unfold Oper.wp execOp
  generalize ptrOf (a.eval (.tmp n)) = g at *
  simp only [e, Instr.loadAt, Instr.sureAddr, Sem.run_bind, Sem.run_pure, Result.andThen_ok, run_loadVar_row w g t 22 (rowAt w g) (0, 0) _ hr Try.underlying22 rfl (by rw [hs]; exact info22)]
  rfl
theorem wp_ld23 {a : Act} {w : World} {K : Act → World → Prop} {Q : Exit → Act → World → Prop} {dst : Option Tmp} {n : Tmp} {ty : TypeId} {pos : String} {af : Array Edge} {gd : Option (Nat × Bool)}
    (h1 : ptrB (a.eval (.tmp n)) = true) (h2 : okRow w (ptrOf (a.eval (.tmp n))) = true) :
    Oper.wp Try.prog ⟨dst, .load 23 (.tmp n), ty, pos, af, gd⟩ a w K Q = K (a.put dst (.agg (rowAt w (ptrOf (a.eval (.tmp n)))))) w := by
  obtain ⟨t, hr, hs⟩ := row_form h2
  have e := ptr_form h1
  unfold Oper.wp execOp
  generalize ptrOf (a.eval (.tmp n)) = g at *
  simp only [e, Instr.loadAt, Instr.sureAddr, Sem.run_bind, Sem.run_pure, Result.andThen_ok, run_loadVar_row w g t 23 (rowAt w g) (0, 0) _ hr Try.underlying23 rfl (by rw [hs]; exact info23)]
  rfl
/-- the cells of an array's value -/
def rowOf : Value → Array Value | .agg c => c | _ => #[]
def okVal : Value → Bool | .agg c => c.size == 32 && c.all (·.oneCell') | _ => false
theorem val_form {v : Value} (h : okVal v = true) : v = .agg (rowOf v) ∧ (rowOf v).size = 32 ∧ (rowOf v).all (·.oneCell') = true := by
  cases v with
  | agg c =>
    simp only [okVal, Bool.and_eq_true, beq_iff_eq] at h
    exact ⟨rfl, h.1, h.2⟩
  | _ => simp [okVal] at h
theorem wp_st23 {a : Act} {w : World} {K : Act → World → Prop} {Q : Exit → Act → World → Prop} {dst : Option Tmp} {n m : Tmp} {ty : TypeId} {pos : String} {af : Array Edge} {gd : Option (Nat × Bool)}
    (h1 : ptrB (a.eval (.tmp n)) = true) (h2 : okRow w (ptrOf (a.eval (.tmp n))) = true) (h3 : okVal (a.eval (.tmp m)) = true) :
    Oper.wp Try.prog ⟨dst, .store 23 (.tmp n) (.tmp m), ty, pos, af, gd⟩ a w K Q = K (a.put dst undef) (w.setRow (ptrOf (a.eval (.tmp n))) (rowOf (a.eval (.tmp m)))) := by
  obtain ⟨t, hr, hs⟩ := row_form h2
  obtain ⟨ev, hvs, hv1⟩ := val_form h3
  have e := ptr_form h1
  unfold Oper.wp execOp
  generalize ptrOf (a.eval (.tmp n)) = g at *
  generalize rowOf (a.eval (.tmp m)) = c at *
  simp only [e, ev, Instr.storeAt, Instr.sureAddr, Sem.run_bind, Sem.run_pure, Result.andThen_ok, run_storeVar_row w g t 23 (rowAt w g) c hr (by rw [hvs]; exact info23) (by rw [hs, hvs]) hv1]
  rfl

theorem rowAt_of {w : World} {g : Nat} {c : Array Value} {t : TypeId} (h : w.heap[g]? = some (.cells c t)) : rowAt w g = c := by simp [rowAt, h]
theorem okRow_of {w : World} {g : Nat} {c : Array Value} {t : TypeId} (h : w.heap[g]? = some (.cells c t)) (hc : c.size = 32) : okRow w g = true := by simp [okRow, h, hc]
theorem rowAt_new (w : World) (c : Array Value) (t : TypeId) : rowAt (w.alloc (.cells c t)) w.heap.size = c := rowAt_of (heap_alloc_new w _)
theorem okRow_new (w : World) (c : Array Value) (t : TypeId) (hc : c.size = 32) : okRow (w.alloc (.cells c t)) w.heap.size = true := okRow_of (heap_alloc_new w _) hc
theorem okRow_new2 (w : World) (A : Obj) (c : Array Value) (t : TypeId) (hc : c.size = 32) : okRow ((w.alloc A).alloc (.cells c t)) (w.heap.size + 1) = true := okRow_of (heap_alloc2_new w _ _) hc
theorem rowAt_old (w : World) (o : Obj) (g : Nat) (h : g < w.heap.size) : rowAt (w.alloc o) g = rowAt w g := by unfold rowAt; rw [Go.heap_alloc_old w o h]
theorem okRow_old (w : World) (o : Obj) (g : Nat) (h : g < w.heap.size) : okRow (w.alloc o) g = okRow w g := by unfold okRow; rw [Go.heap_alloc_old w o h]
theorem rowAt_drew (w : World) (g : Nat) : rowAt w.drew g = rowAt w g := rfl
theorem okRow_drew (w : World) (g : Nat) : okRow w.drew g = okRow w g := rfl
theorem ptrOf_mk (b o : Nat) (s : Option Nat) : ptrOf (.pointer (some ⟨b, o, s⟩)) = b := rfl
theorem ptrB_mk (b : Nat) : ptrB (.pointer (some ⟨b, 0, none⟩)) = true := rfl
theorem rowOf_mk (c : Array Value) : rowOf (.agg c) = c := rfl
theorem setRow_new2 (w : World) (A : Obj) (c c' : Array Value) (t : TypeId) : ((w.alloc A).alloc (.cells c t)).setRow (w.heap.size + 1) c' = (w.alloc A).alloc (.cells c' t) := by
  have h := World.setRow_alloc_new (w.alloc A) c c' t
  have e : (w.alloc A).heap.size = w.heap.size + 1 := by
    show (w.heap.push A).size = _
    simp
  rwa [e] at h

end Go.Proofs.Qxb6614077a
