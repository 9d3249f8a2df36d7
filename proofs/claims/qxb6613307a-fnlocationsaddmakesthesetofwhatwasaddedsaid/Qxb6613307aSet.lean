/-
  Seat b6613307a: the plain law: an octet as a set of the numbers 0 to 7; no Go in sight but the model's 'or' on octets.
-/
import Derived.Test.Qxb6613307aRows
import Derived.WalkKit
import Derived.ProofKit
import Derived.OpenShut
namespace Go.Proofs.Qxb6613307a

/-- bit v of x -/
def bitB (x : Int) (v : Nat) : Bool := decide (x / 2 ^ v % 2 = 1)
theorem bit_nat (n v : Nat) : bitB (n : Int) v = n.testBit v := by
  unfold bitB
  rw [Nat.testBit_eq_decide_div_mod_eq, decide_eq_decide]
  have : ((n : Int) / 2 ^ v % 2) = ((n / 2 ^ v % 2 : Nat) : Int) := by simp
  rw [this]
  omega
/-- 'x | 1<<l' on octets -/
def addL (x l : Int) : Int := bits BinOp.or IntKind.u8 x (2 ^ min l.toNat 8 % 256)
theorem addL_nat (x l : Int) (h0 : 0 ≤ x) (h1 : x ≤ 255) : addL x l = ((x.toNat ||| (2 ^ min l.toNat 8 % 256) : Nat) : Int) := by
  unfold addL
  rw [u8_or x _ h0 (by omega) (by omega) (by omega)]
  have : ((2 : Int) ^ min l.toNat 8 % 256).toNat = 2 ^ min l.toNat 8 % 256 := by
    have e : ((2 : Int) ^ min l.toNat 8 % 256) = ((2 ^ min l.toNat 8 % 256 : Nat) : Int) := by simp
    rw [e, Int.toNat_natCast]
  rw [this]
theorem addL_bd (x l : Int) (h0 : 0 ≤ x) (h1 : x ≤ 255) : 0 ≤ addL x l ∧ addL x l ≤ 255 := by
  rw [addL_nat x l h0 h1]
  have : x.toNat ||| (2 ^ min l.toNat 8 % 256) < 2 ^ 8 := Nat.or_lt_two_pow (by omega) (by omega)
  omega
theorem addL_bit (x l : Int) (h0 : 0 ≤ x) (h1 : x ≤ 255) (hl : 0 ≤ l) (v : Nat) (hv : v < 8) : bitB (addL x l) v = true ↔ bitB x v = true ∨ l = (v : Int) := by
  rw [addL_nat x l h0 h1, bit_nat, Nat.testBit_or, Bool.or_eq_true]
  have e : bitB x v = x.toNat.testBit v := by rw [← bit_nat, Int.toNat_of_nonneg h0]
  rw [e]
  refine or_congr Iff.rfl ?_
  by_cases h8 : l.toNat < 8
  · rw [Nat.min_eq_left (by omega)]
    have hp : 2 ^ l.toNat < 256 := by
      have := Nat.pow_lt_pow_right (a := 2) (by omega) h8
      omega
    rw [Nat.mod_eq_of_lt hp, Nat.testBit_two_pow, decide_eq_true_eq]
    omega
  · rw [Nat.min_eq_right (by omega)]
    simp
    omega
theorem same_mod (a b : Int) (h : a % 2 = 1 ↔ b % 2 = 1) : a % 2 = b % 2 := by omega
/-- two octets with the same bits are one -/
theorem ext_octet (x y : Int) (h0 : 0 ≤ x) (h1 : x ≤ 255) (g0 : 0 ≤ y) (g1 : y ≤ 255) (h : ∀ v, v < 8 → (bitB x v = true ↔ bitB y v = true)) : x = y := by
  have e : ∀ v, v < 8 → x / 2 ^ v % 2 = y / 2 ^ v % 2 := fun v hv => same_mod _ _ (by simpa [bitB] using h v hv)
  clear h
  have c0 : x % 2 = y % 2 := by simpa using e 0 (by omega)
  have c1 : x / 2 % 2 = y / 2 % 2 := by simpa using e 1 (by omega)
  have c2 : x / 4 % 2 = y / 4 % 2 := by simpa using e 2 (by omega)
  have c3 : x / 8 % 2 = y / 8 % 2 := by simpa using e 3 (by omega)
  have c4 : x / 16 % 2 = y / 16 % 2 := by simpa using e 4 (by omega)
  have c5 : x / 32 % 2 = y / 32 % 2 := by simpa using e 5 (by omega)
  have c6 : x / 64 % 2 = y / 64 % 2 := by simpa using e 6 (by omega)
  have c7 : x / 128 % 2 = y / 128 % 2 := by simpa using e 7 (by omega)
  clear e
  omega

/-- x holds the members of s and those among f a .. f (b - 1) -/
def IsSet (s : Int) (f : Nat → Int) (a b : Nat) (x : Int) : Prop :=
  0 ≤ x ∧ x ≤ 255 ∧ ∀ v : Nat, v < 8 → (bitB x v = true ↔ bitB s v = true ∨ ∃ i, a ≤ i ∧ i < b ∧ f i = (v : Int))
theorem set_start (s : Int) (f : Nat → Int) (a : Nat) (h0 : 0 ≤ s) (h1 : s ≤ 255) : IsSet s f a a s :=
  ⟨h0, h1, fun v hv => ⟨Or.inl, fun h => h.elim id fun ⟨i, _, _, _⟩ => by omega⟩⟩
theorem set_up {s : Int} {f : Nat → Int} {a k : Nat} {x : Int} (h : IsSet s f a k x) (ha : a ≤ k) (hf : 0 ≤ f k) : IsSet s f a (k + 1) (addL x (f k)) := by
  obtain ⟨h0, h1, h2⟩ := h
  have hb := addL_bd x (f k) h0 h1
  refine ⟨hb.1, hb.2, fun v hv => ?_⟩
  rw [addL_bit x (f k) h0 h1 hf v hv, h2 v hv]
  constructor
  · rintro ((h | ⟨i, h3, h4, h5⟩) | h)
    · exact Or.inl h
    · exact Or.inr ⟨i, h3, by omega, h5⟩
    · exact Or.inr ⟨k, ha, by omega, h⟩
  · rintro (h | ⟨i, h3, h4, h5⟩)
    · exact Or.inl (Or.inl h)
    · by_cases e : i = k
      · subst e; exact Or.inr h5
      · exact Or.inl (Or.inr ⟨i, h3, by omega, h5⟩)
theorem set_down {s : Int} {f : Nat → Int} {k n : Nat} {x : Int} (h : IsSet s f (k + 1) n x) (hn : k < n) (hf : 0 ≤ f k) : IsSet s f k n (addL x (f k)) := by
  obtain ⟨h0, h1, h2⟩ := h
  have hb := addL_bd x (f k) h0 h1
  refine ⟨hb.1, hb.2, fun v hv => ?_⟩
  rw [addL_bit x (f k) h0 h1 hf v hv, h2 v hv]
  constructor
  · rintro ((h | ⟨i, h3, h4, h5⟩) | h)
    · exact Or.inl h
    · exact Or.inr ⟨i, by omega, h4, h5⟩
    · exact Or.inr ⟨k, by omega, hn, h⟩
  · rintro (h | ⟨i, h3, h4, h5⟩)
    · exact Or.inl (Or.inl h)
    · by_cases e : i = k
      · subst e; exact Or.inr h5
      · exact Or.inl (Or.inr ⟨i, by omega, h4, h5⟩)
theorem set_one {s : Int} {f : Nat → Int} {a b : Nat} {x y : Int} (h : IsSet s f a b x) (g : IsSet s f a b y) : x = y :=
  ext_octet x y h.1 h.2.1 g.1 g.2.1 fun v hv => (h.2.2 v hv).trans (g.2.2 v hv).symm

/-- what the inner loop knows of 'in' after k elements -/
def Seen (s : Int) (f : Nat → Int) (v k : Nat) (B : Bool) : Prop := B = true ↔ bitB s v = true ∨ ∃ i, 0 ≤ i ∧ i < k ∧ f i = (v : Int)
theorem seen_start (s : Int) (f : Nat → Int) (v : Nat) : Seen s f v 0 (bitB s v) := ⟨Or.inl, fun h => h.elim id fun ⟨i, _, _, _⟩ => by omega⟩
theorem seen_hit {s : Int} {f : Nat → Int} {v k : Nat} (h : f k = (v : Int)) : Seen s f v (k + 1) true := ⟨fun _ => Or.inr ⟨k, by omega, by omega, h⟩, fun _ => rfl⟩
theorem seen_miss {s : Int} {f : Nat → Int} {v k : Nat} (g : Seen s f v k false) (h : f k ≠ (v : Int)) : Seen s f v (k + 1) false := by
  refine ⟨fun e => (by cases e), fun e => ?_⟩
  rcases e with e | ⟨i, h3, h4, h5⟩
  · exact g.2 (Or.inl e)
  · by_cases ei : i = k
    · subst ei; exact absurd h5 h
    · exact g.2 (Or.inr ⟨i, h3, by omega, h5⟩)
theorem seen_end {s : Int} {f : Nat → Int} {v k n : Nat} {B : Bool} {x : Int} (hx : IsSet s f 0 n x) (hv : v < 8) (hk : k ≤ n) (g : Seen s f v k B) (hB : B = true ∨ k = n) : bitB x v = B := by
  rw [Bool.eq_iff_iff, hx.2.2 v hv]
  constructor
  · intro e
    rcases hB with hB | rfl
    · exact hB
    · exact g.2 e
  · intro e
    rcases g.1 e with h | ⟨i, h3, h4, h5⟩
    · exact Or.inl h
    · exact Or.inr ⟨i, h3, by omega, h5⟩
end Go.Proofs.Qxb6613307a
