/-
  Seat b6614077a, FnBucketsHasComplementAndCount: the plain law: no Go in sight but 'bitB' and the model's 'and' on octets.
-/
import Derived.Test.Qxb6614077aHas
namespace Go.Proofs.Qxb6614077a

/-- how many of the first m bits of x are one -/
def cntB (x : Int) : Nat → Nat
  | 0 => 0
  | m + 1 => cntB x m + (if bitB x m = true then 1 else 0)
/-- .. of all eight -/
def pc (x : Int) : Nat := cntB x 8
theorem cntB_le (x : Int) : ∀ m, cntB x m ≤ m
  | 0 => Nat.le_refl _
  | m + 1 => by have := cntB_le x m; simp only [cntB]; split <;> omega
theorem pc_le (x : Int) : pc x ≤ 8 := cntB_le x 8
theorem pc_zero : pc 0 = 0 := by decide +kernel
/-- the one bits of the first i octets -/
def ones (z : Nat → Int) : Nat → Nat
  | 0 => 0
  | i + 1 => ones z i + pc (z i)
theorem ones_le (z : Nat → Int) : ∀ i, ones z i ≤ 8 * i
  | 0 => Nat.le_refl _
  | i + 1 => by have := ones_le z i; have := pc_le (z i); simp only [ones]; omega
theorem ones_succ (z : Nat → Int) (i : Nat) : ones z (i + 1) = ones z i + pc (z i) := rfl
/-- how many of the first k buckets are held -/
def held (z : Nat → Int) : Nat → Nat
  | 0 => 0
  | k + 1 => held z k + (if bitB (z (k / 8)) (k % 8) = true then 1 else 0)
theorem held_le (z : Nat → Int) : ∀ k, held z k ≤ k
  | 0 => Nat.le_refl _
  | k + 1 => by have := held_le z k; simp only [held]; split <;> omega
theorem held_in (z : Nat → Int) (k : Nat) (h : bitB (z (k / 8)) (k % 8) = true) : held z (k + 1) = held z k + 1 := by simp [held, h]
theorem held_out (z : Nat → Int) (k : Nat) (h : bitB (z (k / 8)) (k % 8) = false) : held z (k + 1) = held z k := by simp [held, h]
theorem held_part (z : Nat → Int) (i : Nat) (h : held z (8 * i) = ones z i) : ∀ m, m ≤ 8 → held z (8 * i + m) = ones z i + cntB (z i) m
  | 0, _ => by simpa [cntB] using h
  | m + 1, hm => by
    have ih := held_part z i h m (by omega)
    rw [← Nat.add_assoc]
    simp only [held, cntB]
    rw [ih, show (8 * i + m) / 8 = i by omega, show (8 * i + m) % 8 = m by omega, Nat.add_assoc]
theorem held_all (z : Nat → Int) : ∀ i, held z (8 * i) = ones z i
  | 0 => rfl
  | i + 1 => by
    have := held_part z i (held_all z i) 8 (Nat.le_refl _)
    rw [show 8 * (i + 1) = 8 * i + 8 by omega, this]; rfl
theorem held_256 (z : Nat → Int) : held z 256 = ones z 32 := held_all z 32
/-- a bit of the complement -/
theorem bit_not (x : Int) (j : Nat) (hj : j < 8) : bitB (255 - x) j = !bitB x j := by
  have : j = 0 ∨ j = 1 ∨ j = 2 ∨ j = 3 ∨ j = 4 ∨ j = 5 ∨ j = 6 ∨ j = 7 := by omega
  rw [Bool.eq_iff_iff]
  rcases this with rfl | rfl | rfl | rfl | rfl | rfl | rfl | rfl <;> simp [bitB] <;> omega
theorem clear_nat : ∀ n : Fin 256, n.val = 0 ∨ (pc ((n.val &&& (n.val - 1) : Nat) : Int) + 1 = pc (n.val : Int) ∧ n.val &&& (n.val - 1) < n.val) := by decide +kernel
/-- clearing the lowest one bit -/
theorem clear_low (v : Int) (h0 : 0 ≤ v) (h1 : v ≤ 255) (hv : v ≠ 0) :
    pc (bits BinOp.and IntKind.u8 v (v - 1)) + 1 = pc v ∧ 0 ≤ bits BinOp.and IntKind.u8 v (v - 1) ∧ bits BinOp.and IntKind.u8 v (v - 1) < v := by
  rw [u8_and v (v - 1) h0 (by omega) (by omega) (by omega)]
  obtain ⟨n, rfl⟩ := Int.eq_ofNat_of_zero_le h0
  rw [Int.toNat_natCast, show ((n : Int) - 1).toNat = n - 1 by omega]
  rcases clear_nat ⟨n, by omega⟩ with h | ⟨h2, h3⟩
  · simp only at h; omega
  · simp only at h2 h3
    exact ⟨h2, by omega, by omega⟩
end Go.Proofs.Qxb6614077a
