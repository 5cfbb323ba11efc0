/-
  A TEXT CUT IN TWO: the plain laws; Digits at a bundled row (seat b6617347a).
-/
import Derived.Test.Qxb6617347aCopied
namespace Go.Proofs.Qxb6617347a
open Go.RowKit

namespace Pl
/-- The text from place k on. -/
def tl (z : Nat → Int) (k : Nat) : Nat → Int := fun i => z (k + i)
theorem tl_zero (z : Nat → Int) : tl z 0 = z := by funext i; simp [tl]
theorem allD_add (z : Nat → Int) (k : Nat) : ∀ m, allD z (k + m) = (allD z k && allD (tl z k) m)
  | 0 => by simp [allD]
  | m + 1 => by show (allD z (k + m) && _) = (_ && (allD (tl z k) m && _)); rw [allD_add z k m, Bool.and_assoc]; rfl
theorem val_add (z : Nat → Int) (k : Nat) : ∀ m, val z (k + m) = val z k * ten m + val (tl z k) m
  | 0 => by simp [val, ten]
  | m + 1 => by
    show val z (k + m) * 10 + (z (k + m) - 48) = val z k * (ten m * 10) + (val (tl z k) m * 10 + (z (k + m) - 48))
    rw [val_add z k m, Int.add_mul, Int.mul_assoc]; omega
theorem cut_law (z : Nat → Int) (n k : Nat) (hk1 : 1 ≤ k) (hk2 : k < n) (h : okD z n = true) :
    okD z k = true ∧ okD (tl z k) (n - k) = true ∧ numD z n = numD z k * ten (n - k) + numD (tl z k) (n - k) ∧ 0 ≤ numD z k ∧ 0 ≤ numD (tl z k) (n - k) ∧
      0 ≤ numD z k * ten (n - k) ∧ numD z k * ten (n - k) + numD (tl z k) (n - k) ≤ 1000000000000000000 := by
  obtain ⟨h1, h18, ha⟩ := okD_parts z n h
  have e : n = k + (n - k) := by omega
  have ha' := ha
  rw [e, allD_add, Bool.and_eq_true] at ha'
  have o1 := okD_ok z k hk1 (by omega) ha'.1
  have o2 := okD_ok (tl z k) (n - k) (by omega) (by omega) ha'.2
  have hv : val z n = val z k * ten (n - k) + val (tl z k) (n - k) := by rw [← val_add, ← e]
  have b1 := val_bd z k ha'.1
  have b2 := val_bd (tl z k) (n - k) ha'.2
  have b3 := val_bd z n ha
  have b4 := ten_18 n h18
  have b5 := ten_pos (n - k)
  rw [numD_ok z n h, numD_ok z k o1, numD_ok _ _ o2]
  exact ⟨o1, o2, hv, b1.1, b2.1, Int.mul_nonneg b1.1 (by omega), by omega⟩
end Pl
open Pl

/-- A row of bytes with all that the walk of Digits asks. -/
def RowD (w : World) (a : Option Addr) (n : Nat) (z : Nat → Int) : Prop := Row w a n z ∧ (∀ i, 0 ≤ z i ∧ z i ≤ 255) ∧ n ≤ maxLen
theorem digD {a : Option Addr} {n c : Nat} {z : Nat → Int} {w : World} (h : RowD w a n z) :
    Calls Try.prog 8 #[.slice a n c] w fun e w' => e = .returned (.tuple #[.int .i64 (numD z n), .bool (okD z n)]) ∧ w' = w := digits_any a n c z w h.2.2 h.2.1 h.1
theorem allD_D {a : Option Addr} {n c : Nat} {z : Nat → Int} {w : World} (h : RowD w a n z) :
    Calls Try.prog 9 #[.slice a n c] w fun e w' => e = .returned (.bool (allD z n)) ∧ w' = w := allDec_any a n c z w h.2.2 h.2.1 h.1
end Go.Proofs.Qxb6617347a
