import Derived.Laws.Bits64
namespace Go.Proofs.Qxb6604276aMods
open Go

/-! The plain law: no Go in sight. 'f': the bytes; 'n': how many. -/
namespace Gram

def dig (b : Int) : Bool := decide (48 ≤ b ∧ b ≤ 57)

/-- From i on, j is the first place below n that is no digit (n, where all are). -/
structure Run (f : Nat → Int) (n i j : Nat) : Prop where
  lo : i ≤ j
  hi : j ≤ n
  all : ∀ k, i ≤ k → k < j → dig (f k) = true
  stop : j < n → dig (f j) = false

/-- The exact value of the digits among the first k bytes. -/
def V (f : Nat → Int) : Nat → Int
  | 0 => 0
  | k + 1 => if dig (f k) = true then V f k * 10 + (f k - 48) else V f k

theorem V_digit {f : Nat → Int} {k : Nat} (h : dig (f k) = true) : V f (k + 1) = V f k * 10 + (f k - 48) := by simp [V, h]
theorem V_other {f : Nat → Int} {k : Nat} (h : dig (f k) = false) : V f (k + 1) = V f k := by simp [V, h]

def W (x : Int) : Int := IntKind.u64.wrap x

theorem W_eq (x : Int) : W x = x % 18446744073709551616 := IntKind.wrap_u64 x

/-- One step of the left-to-right reading. -/
theorem W_left (v x : Int) : W (W (W v * 10) + x) = W (v * 10 + x) := by
  simp only [W_eq]
  omega

/-- One step of the right-to-left sum: the coefficient. -/
theorem W_right (s x p : Int) : W (W s + W (x * W p)) = W (s + x * p) := by
  simp only [W_eq]
  rw [Int.add_emod, Int.emod_emod, Int.emod_emod, Int.mul_emod, Int.emod_emod, ← Int.mul_emod, ← Int.add_emod]

/-- One step of the right-to-left sum: the power. -/
theorem W_pow (p : Int) : W (W p * 10) = W (p * 10) := by
  simp only [W_eq]
  omega

/-- One step of the right-to-left sum, exactly. -/
theorem V_back {f : Nat → Int} {E j : Nat} {P S : Int} (h : V f E = V f (j + 1) * P + S) :
    (dig (f j) = true → V f E = V f j * (P * 10) + (S + (f j - 48) * P)) ∧ (dig (f j) = false → V f E = V f j * P + S) := by
  refine ⟨fun hd => ?_, fun hd => ?_⟩
  · rw [h, V_digit hd, Int.add_mul, Int.mul_assoc, Int.mul_comm 10 P]
    omega
  · rw [h, V_other hd]

end Gram
end Go.Proofs.Qxb6604276aMods
