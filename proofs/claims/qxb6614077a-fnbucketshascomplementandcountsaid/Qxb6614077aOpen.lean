/-
  Seat b6614077a: an array of 32 octets that came in by value, opened.
-/
import Derived.Test.Qxb6614077aHas
import Derived.ShutString
import Derived.ChangeOld
import Derived.Below
import Derived.Carry
namespace Go.Proofs.Qxb6614077a
open Go.ChangeShapes Go.WideShapes Go.ChangeAt Go.RowKit

theorem own : ownKnob Try.prog.godebug = none := by kernel_rfl
theorem laidOut : laidOutB Try.prog = true := by kernel_rfl
theorem cells22 : Try.prog.cellsOf 22 = 32 := by kernel_rfl
theorem cells5 : Try.prog.cellsOf 5 = 1 := by kernel_rfl

theorem one_cell {l : List Value} {i : Nat} {v : Value} (h : (l.drop (i * 1)).take 1 = [v]) : l[i]? = some v := by
  rw [Nat.mul_one] at h
  have h1 : ((l.drop i).take 1)[0]? = some v := by rw [h]; rfl
  simpa using h1

/-- WHAT THE WALK IS TOLD: 32 cells, each an octet. -/
theorem open_octets {H : Type} {enc : TypeId × Value → H} {W : World} {cs : Array Value} {d : DataW H} {ps : List MemPlace}
    (h : DataW.Trod enc Try.prog W 0 (fun _ => true) true 22 (.agg cs) d ps) :
    ∃ z : Nat → Int, cs.size = 32 ∧ cs.all (·.oneCell') = true ∧ (∀ i, i < 32 → cs[i]? = some (.int .u8 (z i))) ∧ ∀ i, 0 ≤ z i ∧ z i ≤ 255 := by
  obtain ⟨fuel, hf⟩ := h
  obtain ⟨xs, m, _, _, hl, hn, hx⟩ := DataW.trod_array Try.underlying22 hf
  simp only [Value.cells, cells22] at hl
  have hs : cs.size = 32 := by simpa using hl
  have hcell : ∀ i, i < 32 → ∃ n : Int, cs[i]? = some (.int .u8 n) ∧ 0 ≤ n ∧ n ≤ 255 := by
    intro i hi
    have h1 := hx i hi
    rw [cells5, List.getElem?_eq_getElem (by omega)] at h1
    obtain ⟨n, e, _, wn⟩ := DataW.trod_int Try.underlying5 h1
    have := bounds_u8 wn
    exact ⟨n, by simpa [Value.cells] using one_cell e, this.1, by omega⟩
  refine ⟨fun i => match cs[i]? with | some (.int .u8 n) => if 0 ≤ n ∧ n ≤ 255 then n else 0 | _ => 0, hs, ?_, ?_, ?_⟩
  · rw [Array.all_eq_true]
    intro i hi
    obtain ⟨n, e, _⟩ := hcell i (by omega)
    rw [Array.getElem?_eq_getElem hi] at e
    simp only [Option.some.injEq] at e
    rw [e]; rfl
  · intro i hi
    obtain ⟨n, e, h0, h1⟩ := hcell i hi
    simp only [e, h0, h1, and_self, if_true]
  · intro i
    simp only
    split
    · split <;> omega
    · omega
end Go.Proofs.Qxb6614077a
