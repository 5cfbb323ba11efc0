/-
  PLAIN LAWS OF SEAT b6617347a: no Go in sight. A text of n bytes is a function z : Nat → Int, read below n.
-/
namespace Go.Proofs.Qxb6617347a.Pl

/-- Are the first k bytes decimal digits? -/
def allD (z : Nat → Int) : Nat → Bool
  | 0 => true
  | k + 1 => allD z k && decide (48 ≤ z k ∧ z k ≤ 57)
/-- The number that the first k digits write. -/
def val (z : Nat → Int) : Nat → Int
  | 0 => 0
  | k + 1 => val z k * 10 + (z k - 48)
/-- One to eighteen bytes, digits alone. -/
def okD (z : Nat → Int) (n : Nat) : Bool := decide (1 ≤ n ∧ n ≤ 18) && allD z n
/-- The number, or 0 where the text is refused. -/
def numD (z : Nat → Int) (n : Nat) : Int := if okD z n = true then val z n else 0
/-- Ten to the k. -/
def ten : Nat → Int
  | 0 => 1
  | k + 1 => ten k * 10

theorem ten_pos : ∀ k, 1 ≤ ten k
  | 0 => by simp [ten]
  | k + 1 => by have := ten_pos k; simp only [ten]; omega
theorem ten_mono (k : Nat) : ∀ d, ten k ≤ ten (k + d)
  | 0 => Int.le_refl _
  | d + 1 => by have := ten_mono k d; have := ten_pos (k + d); show _ ≤ ten (k + d) * 10; omega
theorem ten_17 (k : Nat) (h : k ≤ 17) : ten k ≤ 100000000000000000 := by
  have := ten_mono k (17 - k)
  rw [show k + (17 - k) = 17 by omega] at this
  have e : ten 17 = 100000000000000000 := by decide
  omega
theorem ten_18 (k : Nat) (h : k ≤ 18) : ten k ≤ 1000000000000000000 := by
  have := ten_mono k (18 - k)
  rw [show k + (18 - k) = 18 by omega] at this
  have e : ten 18 = 1000000000000000000 := by decide
  omega
theorem ten_add (a : Nat) : ∀ b, ten (a + b) = ten a * ten b
  | 0 => by simp [ten]
  | b + 1 => by show ten (a + b) * 10 = ten a * (ten b * 10); rw [ten_add a b, Int.mul_assoc]

theorem allD_succ (z : Nat → Int) (k : Nat) (h : allD z k = true) (h1 : 48 ≤ z k) (h2 : z k ≤ 57) : allD z (k + 1) = true := by simp [allD, h, h1, h2]
theorem allD_at (z : Nat → Int) : ∀ n, allD z n = true → ∀ i, i < n → 48 ≤ z i ∧ z i ≤ 57
  | 0, _, i, hi => absurd hi (Nat.not_lt_zero _)
  | n + 1, h, i, hi => by
    simp only [allD, Bool.and_eq_true, decide_eq_true_eq] at h
    rcases Nat.lt_succ_iff_lt_or_eq.1 hi with h' | rfl
    · exact allD_at z n h.1 i h'
    · exact h.2
theorem allD_of (z : Nat → Int) : ∀ n, (∀ i, i < n → 48 ≤ z i ∧ z i ≤ 57) → allD z n = true
  | 0, _ => rfl
  | n + 1, h => by simp [allD, allD_of z n (fun i hi => h i (by omega)), h n (by omega)]
theorem allD_bad (z : Nat → Int) (n k : Nat) (hk : k < n) (hb : ¬ (48 ≤ z k ∧ z k ≤ 57)) : allD z n = false := by
  cases h : allD z n
  · rfl
  · exact absurd (allD_at z n h k hk) hb

theorem val_bd (z : Nat → Int) : ∀ k, allD z k = true → 0 ≤ val z k ∧ val z k + 1 ≤ ten k
  | 0, _ => by simp [val, ten]
  | k + 1, h => by
    simp only [allD, Bool.and_eq_true, decide_eq_true_eq] at h
    have := val_bd z k h.1
    simp only [val, ten]; omega

theorem okD_len (z : Nat → Int) (n : Nat) (h : ¬ (1 ≤ n ∧ n ≤ 18)) : okD z n = false := by rw [okD, decide_eq_false h]; rfl
theorem okD_bad (z : Nat → Int) (n : Nat) (h : allD z n = false) : okD z n = false := by rw [okD, h]; simp
theorem okD_ok (z : Nat → Int) (n : Nat) (h1 : 1 ≤ n) (h2 : n ≤ 18) (h : allD z n = true) : okD z n = true := by simp [okD, h1, h2, h]
theorem numD_no (z : Nat → Int) (n : Nat) (h : okD z n = false) : numD z n = 0 := by rw [numD, h]; rfl
theorem numD_ok (z : Nat → Int) (n : Nat) (h : okD z n = true) : numD z n = val z n := by rw [numD, h]; rfl
theorem okD_parts (z : Nat → Int) (n : Nat) (h : okD z n = true) : 1 ≤ n ∧ n ≤ 18 ∧ allD z n = true := by
  simp only [okD, Bool.and_eq_true, decide_eq_true_eq] at h; exact ⟨h.1.1, h.1.2, h.2⟩
end Go.Proofs.Qxb6617347a.Pl
