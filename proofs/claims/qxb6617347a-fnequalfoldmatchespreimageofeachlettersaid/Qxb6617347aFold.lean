/-
  EQUALFOLD AND ADMITSFOLD: the plain functions, the plain law and the walks (seat b6617347a).
-/
import Derived.Test.Qxb6617347aWalks
namespace Go.Proofs.Qxb6617347a
open Go.RowKit

namespace Pl
/-- Byte k of a string as a number; 0 behind its end. -/
def bt (s : ByteArray) (k : Nat) : Int := if h : k < s.size then ((s[k]'h).toNat : Int) else 0
theorem bt_get (s : ByteArray) (n : Nat) (h : n < s.size) : ((s[n]'h).toNat : Int) = bt s n := by unfold bt; rw [dif_pos h]
theorem bt_bd (s : ByteArray) (k : Nat) : 0 ≤ bt s k ∧ bt s k ≤ 255 := by
  unfold bt; split
  · rename_i h
    have := (s[k]'h).toNat_lt; omega
  · omega
/-- An upper-case ASCII letter made lower-case; any other byte as it is. -/
def low (c : Int) : Int := if 65 ≤ c ∧ c ≤ 90 then c + 32 else c
/-- Does c lie in the set that belongs to l? -/
def admB (l c : Int) : Bool := if 97 ≤ l ∧ l ≤ 122 then decide (c = l ∨ c = l - 32) else if 65 ≤ l ∧ l ≤ 90 then false else decide (c = l)
/-- THE PLAIN LAW, byte by byte. -/
theorem adm_low (l c : Int) : admB l c = decide (low c = l) := by
  unfold admB low
  rw [Bool.eq_iff_iff]
  split
  · simp only [decide_eq_true_eq]; split <;> omega
  · split
    · simp only [decide_eq_true_eq, Bool.false_eq_true, false_iff]; split <;> omega
    · simp only [decide_eq_true_eq]; split <;> omega
/-- Do the first k bytes of z, folded, read as those of L? -/
def allF (z L : Nat → Int) : Nat → Bool
  | 0 => true
  | k + 1 => allF z L k && decide (low (z k) = L k)
theorem allF_at (z L : Nat → Int) : ∀ n, allF z L n = true → ∀ i, i < n → low (z i) = L i
  | 0, _, i, hi => absurd hi (Nat.not_lt_zero _)
  | n + 1, h, i, hi => by
    simp only [allF, Bool.and_eq_true, decide_eq_true_eq] at h
    rcases Nat.lt_succ_iff_lt_or_eq.1 hi with h' | rfl
    · exact allF_at z L n h.1 i h'
    · exact h.2
theorem allF_succ (z L : Nat → Int) (k : Nat) (h : allF z L k = true) (h1 : low (z k) = L k) : allF z L (k + 1) = true := by simp [allF, h, h1]
theorem allF_bad (z L : Nat → Int) (n k : Nat) (hk : k < n) (hb : ¬ low (z k) = L k) : allF z L n = false := by
  cases h : allF z L n
  · rfl
  · exact absurd (allF_at z L n h k hk) hb
theorem allF_less (z L : Nat → Int) (n k : Nat) (hk : k ≤ n) (hb : allF z L k = false) : allF z L n = false := by
  induction n with
  | zero => obtain rfl : k = 0 := by omega
            exact hb
  | succ n ih =>
    by_cases h : k = n + 1
    · rw [← h]; exact hb
    · simp [allF, ih (by omega)]
theorem allF_step (z L : Nat → Int) (k : Nat) (h : true = allF z L k) : admB (L k) (z k) = allF z L (k + 1) := by rw [adm_low, allF, ← h, Bool.true_and]
theorem low_up (c : Int) (h1 : 65 ≤ c) (h2 : c ≤ 90) : low c = c + 32 := by rw [low, if_pos ⟨h1, h2⟩]
theorem low_no (c : Int) (h : ¬ (65 ≤ c ∧ c ≤ 90)) : low c = c := by rw [low, if_neg h]
/-- What EqualFold computes. -/
def eqF (z L : Nat → Int) (n m : Nat) : Bool := decide (n = m) && allF z L n
end Pl
open Pl

theorem admits_any (l c : Int) (w : World) (hl : 0 ≤ l ∧ l ≤ 255) (hc : 0 ≤ c ∧ c ≤ 255) :
    Calls Try.prog 16 #[.int .u8 l, .int .u8 c] w fun e w' => e = .returned (.bool (admB l c)) ∧ w' = w := by
  go_enter Try.func16, Try.ntmps16
  go_wp2
  all_goals
    go_ret
    refine ⟨ret_bool ?_, rfl⟩
    rw [adm_low, Bool.eq_iff_iff]
    unfold low
    split <;> simp <;> omega

theorem fold_any (a : Option Addr) (n c : Nat) (z : Nat → Int) (s : ByteArray) (w : World) (hn : n ≤ maxLen) (hz : ∀ i, 0 ≤ z i ∧ z i ≤ 255) (hr : Row w a n z) :
    Calls Try.prog 15 #[.slice a n c, .string s] w fun e w' => e = .returned (.bool (eqF z (bt s) n s.size)) ∧ w' = w := by
  unfold maxLen at hn
  by_cases hs : n = s.size
  · subst hs
    have he : eqF z (bt s) s.size s.size = allF z (bt s) s.size := by simp [eqF]
    rw [he]; clear he
    rcases hr with h0 | ⟨b, off, rfl, hc⟩
    · have HA : Hid (allF z (bt s) s.size = true) := by rw [h0]; rfl
      clear hz
      go_enter Try.func15, Try.ntmps15
      go_wp2
      refine wp_loop_rounds 1 ?_
      rw [rounds_succ]
      go_wp2
      go_ret
      exact ⟨ret_bool HA.out.symm, rfl⟩
    · go_enter Try.func15, Try.ntmps15
      go_wp2
      go_loop [14] (fun i => ∃ k : Nat, k ≤ s.size ∧ i = .int .i64 k ∧ Hid (allF z (bt s) k = true)) (fun i => s.size - (intOf i).toNat)
      case atStart => exact ⟨0, Nat.zero_le _, rfl, rfl⟩
      case round =>
        obtain ⟨k, hk, rfl, ha⟩ := hrel
        by_cases hlt : k < s.size
        · have hck := hc k hlt
          have hzk := hz k
          have hsk := bt_get s k hlt
          have hbk := bt_bd s k
          clear hc hz
          go_wp2
          · have h : (z k + 32 != bt s k) = true := by assumption
            go_ret
            exact ⟨ret_bool (allF_bad z (bt s) s.size k hlt (by rw [low_up _ (by omega) (by omega)]; simpa using h)).symm, rfl⟩
          · have h : (z k + 32 != bt s k) = false := by assumption
            go_round
            case rel => exact ⟨k + 1, by omega, by go_num, allF_succ z (bt s) k ha.out (by rw [low_up _ (by omega) (by omega)]; simpa using h)⟩
            case measure => simp [intOf]; omega
          · have h : (z k != bt s k) = true := by assumption
            go_ret
            exact ⟨ret_bool (allF_bad z (bt s) s.size k hlt (by rw [low_no _ (by omega)]; simpa using h)).symm, rfl⟩
          · have h : (z k != bt s k) = false := by assumption
            go_round
            case rel => exact ⟨k + 1, by omega, by go_num, allF_succ z (bt s) k ha.out (by rw [low_no _ (by omega)]; simpa using h)⟩
            case measure => simp [intOf]; omega
          · have h : (z k != bt s k) = true := by assumption
            go_ret
            exact ⟨ret_bool (allF_bad z (bt s) s.size k hlt (by rw [low_no _ (by omega)]; simpa using h)).symm, rfl⟩
          · have h : (z k != bt s k) = false := by assumption
            go_round
            case rel => exact ⟨k + 1, by omega, by go_num, allF_succ z (bt s) k ha.out (by rw [low_no _ (by omega)]; simpa using h)⟩
            case measure => simp [intOf]; omega
        · have hkn : k = s.size := by omega
          have HB : Hid (allF z (bt s) s.size = true) := hkn ▸ ha.out
          clear hkn
          go_wp2
          go_ret
          exact ⟨ret_bool HB.out.symm, rfl⟩
  · have he : eqF z (bt s) n s.size = false := by simp [eqF, hs]
    rw [he]
    clear he
    go_enter Try.func15, Try.ntmps15
    go_wp2
    go_ret
    exact ⟨rfl, rfl⟩

theorem bytes14_any (a : Option Addr) (n c : Nat) (s : ByteArray) (w : World) (hn : n ≤ maxLen) (hs : s.size ≤ maxLen) :
    Calls Try.prog 14 #[.slice a n c, .string s] w fun e w' => e = .returned (.bool (decide (n + s.size ≤ 1048576))) ∧ w' = w := by
  unfold maxLen at hn hs
  go_enter Try.func14, Try.ntmps14
  go_wp2
  all_goals
    go_ret
    first
      | exact ⟨ret_bool (decide_eq_true (by omega)).symm, rfl⟩
      | exact ⟨ret_bool (decide_eq_false (by omega)).symm, rfl⟩
end Go.Proofs.Qxb6617347a
