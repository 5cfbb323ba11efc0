/-
  PLAIN LAWS OF SEAT b6617347a: the number read from the right; no Go in sight.
-/
import Derived.Test.Qxb6617347aPlain
namespace Go.Proofs.Qxb6617347a.Pl

theorem step_val (z : Nat → Int) (n m : Nat) (W P : Int) (h1 : 1 ≤ m) (hm : m ≤ n) (hP : P = ten (n - m)) (hV : val z n = val z m * ten (n - m) + W) :
    val z n = val z (m - 1) * ten (n - (m - 1)) + (W + (z (m - 1) - 48) * P) := by
  obtain ⟨k, rfl⟩ : ∃ k, m = k + 1 := ⟨m - 1, by omega⟩
  have e : n - (k + 1 - 1) = (n - (k + 1)) + 1 := by omega
  rw [e, hV, ← hP]
  show (val z k * 10 + (z k - 48)) * P + W = val z k * (ten (n - (k + 1)) * 10) + (W + (z k - 48) * P)
  rw [← hP, Int.add_mul, Int.mul_comm P 10, ← Int.mul_assoc]
  omega
theorem step_lt (n m : Nat) (W P D : Int) (h1 : 1 ≤ m) (hm : m ≤ n) (hP : P = ten (n - m)) (hW : W < P) (hD : D ≤ 9 * P) : W + D < ten (n - (m - 1)) := by
  have e : n - (m - 1) = (n - m) + 1 := by omega
  rw [e]
  show W + D < ten (n - m) * 10
  rw [← hP]; omega
theorem step_ten (n m : Nat) (P : Int) (h1 : 1 ≤ m) (hm : m ≤ n) (hP : P = ten (n - m)) : P * 10 = ten (n - (m - 1)) := by
  have e : n - (m - 1) = (n - m) + 1 := by omega
  rw [e, hP]; rfl
theorem prod_bd (d P : Int) (h0 : 0 ≤ d) (h9 : d ≤ 9) (hP : 1 ≤ P) : 0 ≤ d * P ∧ d * P ≤ 9 * P :=
  ⟨Int.mul_nonneg h0 (by omega), Int.mul_le_mul_of_nonneg_right h9 (by omega)⟩
end Go.Proofs.Qxb6617347a.Pl
