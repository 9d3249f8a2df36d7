/-
  Seat b6614077a, FnBucketsHasOctetsAndDoubling: the plain law: no Go in sight but 'bitB'.
-/
import Derived.Test.Qxb6614077aHas
namespace Go.Proofs.Qxb6614077a

/-- the weight of bit m -/
def pw (m : Nat) : Int := 2 ^ m
/-- what the first m bits of x weigh -/
def lowb (x : Int) (m : Nat) : Int := x % 2 ^ m
theorem pw_zero : pw 0 = 1 := rfl
theorem pw_succ (m : Nat) : pw (m + 1) = pw m * 2 := by unfold pw; rw [Int.pow_succ]
theorem pw_bd (m : Nat) (h : m ≤ 8) : 1 ≤ pw m ∧ pw m ≤ 256 := by
  have : m = 0 ∨ m = 1 ∨ m = 2 ∨ m = 3 ∨ m = 4 ∨ m = 5 ∨ m = 6 ∨ m = 7 ∨ m = 8 := by omega
  rcases this with rfl | rfl | rfl | rfl | rfl | rfl | rfl | rfl | rfl <;> simp [pw]
theorem lowb_zero (x : Int) : lowb x 0 = 0 := by unfold lowb; simp
theorem lowb_eight (x : Int) (h0 : 0 ≤ x) (h1 : x ≤ 255) : lowb x 8 = x := by unfold lowb; simp; omega
theorem lowb_bd (x : Int) (m : Nat) (h : m ≤ 8) : 0 ≤ lowb x m ∧ lowb x m ≤ 255 := by
  have := pw_bd m h
  unfold lowb; unfold pw at this
  have h1 := Int.emod_nonneg x (show (2 : Int) ^ m ≠ 0 by omega)
  have h2 := Int.emod_lt_of_pos x (show (0 : Int) < 2 ^ m by omega)
  omega
theorem lowb_in (x : Int) (m : Nat) (hm : m < 8) (h : bitB x m = true) : lowb x (m + 1) = lowb x m + pw m := by
  have : m = 0 ∨ m = 1 ∨ m = 2 ∨ m = 3 ∨ m = 4 ∨ m = 5 ∨ m = 6 ∨ m = 7 := by omega
  rcases this with rfl | rfl | rfl | rfl | rfl | rfl | rfl | rfl <;> simp [bitB, lowb, pw] at h ⊢ <;> omega
theorem lowb_out (x : Int) (m : Nat) (hm : m < 8) (h : bitB x m = false) : lowb x (m + 1) = lowb x m := by
  have : m = 0 ∨ m = 1 ∨ m = 2 ∨ m = 3 ∨ m = 4 ∨ m = 5 ∨ m = 6 ∨ m = 7 := by omega
  rcases this with rfl | rfl | rfl | rfl | rfl | rfl | rfl | rfl <;> simp [bitB, lowb] at h ⊢ <;> omega

/-- the carry into octet k, and octet k of the doubled number -/
def car (z : Nat → Int) : Nat → Int
  | 0 => 0
  | k + 1 => (z k + z k + car z k) / 256
def dbl (z : Nat → Int) (k : Nat) : Int := (z k + z k + car z k) % 256
theorem car_bd (z : Nat → Int) (hz : ∀ i, 0 ≤ z i ∧ z i ≤ 255) : ∀ k, 0 ≤ car z k ∧ car z k ≤ 1
  | 0 => by simp [car]
  | k + 1 => by have := car_bd z hz k; have := hz k; simp only [car]; omega
theorem car_succ (z : Nat → Int) (k : Nat) : car z (k + 1) = (z k + z k + car z k) / 256 := rfl
theorem dbl_bd (z : Nat → Int) (k : Nat) : 0 ≤ dbl z k ∧ dbl z k ≤ 255 := by unfold dbl; omega
theorem dbl_first (z : Nat → Int) : bitB (dbl z 0) 0 = false := by simp [bitB, dbl, car]; omega
theorem dbl_next (z : Nat → Int) (hz : ∀ i, 0 ≤ z i ∧ z i ≤ 255) (k : Nat) :
    bitB (dbl z ((k + 1) / 8)) ((k + 1) % 8) = bitB (z (k / 8)) (k % 8) := by
  have hzk := hz (k / 8)
  have hck := car_bd z hz (k / 8)
  by_cases h7 : k % 8 = 7
  · have e1 : (k + 1) / 8 = k / 8 + 1 := by omega
    have e2 : (k + 1) % 8 = 0 := by omega
    rw [e1, e2, h7]
    have hz' := hz (k / 8 + 1)
    unfold bitB dbl
    rw [car_succ, decide_eq_decide]
    simp
    omega
  · have e1 : (k + 1) / 8 = k / 8 := by omega
    obtain ⟨j, hj⟩ : ∃ j, j = k % 8 := ⟨_, rfl⟩
    have e2 : (k + 1) % 8 = j + 1 := by omega
    rw [e1, e2, ← hj]
    have : j = 0 ∨ j = 1 ∨ j = 2 ∨ j = 3 ∨ j = 4 ∨ j = 5 ∨ j = 6 := by omega
    unfold bitB dbl
    rw [decide_eq_decide]
    rcases this with h | h | h | h | h | h | h <;> rw [h] <;> simp <;> omega
end Go.Proofs.Qxb6614077a
