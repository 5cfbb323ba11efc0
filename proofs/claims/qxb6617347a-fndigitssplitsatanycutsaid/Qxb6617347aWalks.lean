/-
  THE WALKS OF SEAT b6617347a that several laws share: Digits, allDecimal, pow10, the bounds on length.
-/
import Derived.Test.Qxb6617347aRows
import Derived.Test.Qxb6617347aPlain
import Derived.WalkKit
import Derived.WalkSpells
import Derived.ProofKit
namespace Go.Proofs.Qxb6617347a
open Go.RowKit Pl

/-- A slice of n bytes, as the walks ask for it: it has no element, or its cells hold z 0, z 1, .. -/
def Row (w : World) (a : Option Addr) (n : Nat) (z : Nat → Int) : Prop :=
  n = 0 ∨ ∃ b off, a = some ⟨b, off, none⟩ ∧ ∀ i, i < n → w.cell? ⟨b, off + i, none⟩ = some (.int .u8 (z i))

theorem ret_bool {a b : Bool} (h : a = b) : Ending.returned (.bool a) = .returned (.bool b) := by rw [h]
theorem ret_int {k : IntKind} {a b : Int} (h : a = b) : Ending.returned (.int k a) = .returned (.int k b) := by rw [h]
theorem ret_pair {k : IntKind} {a b : Int} {x y : Bool} (h : a = b) (g : x = y) : Ending.returned (.tuple #[.int k a, .bool x]) = .returned (.tuple #[.int k b, .bool y]) := by rw [h, g]

theorem digits_any (a : Option Addr) (n c : Nat) (z : Nat → Int) (w : World) (hn : n ≤ maxLen) (hz : ∀ i, 0 ≤ z i ∧ z i ≤ 255) (hr : Row w a n z) :
    Calls Try.prog 8 #[.slice a n c] w fun e w' => e = .returned (.tuple #[.int .i64 (numD z n), .bool (okD z n)]) ∧ w' = w := by
  unfold maxLen at hn
  by_cases h18 : 1 ≤ n ∧ n ≤ 18
  · obtain ⟨h1, h2⟩ := h18
    rcases hr with h0 | ⟨b, off, rfl, hc⟩
    · omega
    have hne : ((n : Int) == 0) = false := by simp; omega
    go_enter Try.func8, Try.ntmps8
    go_wp2
    go_loop [4, 17] (fun v i => ∃ k : Nat, k ≤ n ∧ i = .int .i64 k ∧ v = .int .i64 (val z k) ∧ Hid (allD z k = true)) (fun _ i => n - (intOf i).toNat)
    case atStart => exact ⟨0, Nat.zero_le _, rfl, rfl, rfl⟩
    case round =>
      obtain ⟨k, hk, rfl, rfl, ha⟩ := hrel
      have hv := val_bd z k ha.out
      by_cases hlt : k < n
      · have ht := ten_17 k (by omega)
        have hck := hc k hlt
        have hzk := hz k
        clear hc hz
        go_wp2
        · have hb := okD_bad z n (allD_bad z n k hlt (by omega))
          go_ret2
          exact ⟨ret_pair (numD_no z n hb).symm hb.symm, rfl⟩
        · go_round
          case rel => exact ⟨k + 1, by omega, by go_num, rfl, allD_succ z k ha.out (by omega) (by omega)⟩
          case measure => simp [intOf]; omega
        · have hb := okD_bad z n (allD_bad z n k hlt (by omega))
          go_ret2
          exact ⟨ret_pair (numD_no z n hb).symm hb.symm, rfl⟩
      · have hkn : k = n := by omega
        have hb := okD_ok z n h1 h2 (hkn ▸ ha.out)
        have he : val z k = numD z n := by rw [hkn, numD_ok z n hb]
        have HB : Hid (okD z n = true) := hb
        have HE : Hid (val z k = numD z n) := he
        clear hb he hkn
        go_wp2
        go_ret2
        exact ⟨ret_pair HE.out HB.out.symm, rfl⟩
  · have hf := okD_len z n h18
    have h0 := numD_no z n hf
    have HB : Hid (okD z n = false) := hf
    have HE : Hid (numD z n = 0) := h0
    clear hf h0
    go_enter Try.func8, Try.ntmps8
    go_wp2
    all_goals
      go_ret2
      exact ⟨ret_pair HE.out.symm HB.out.symm, rfl⟩

theorem allDec_any (a : Option Addr) (n c : Nat) (z : Nat → Int) (w : World) (hn : n ≤ maxLen) (hz : ∀ i, 0 ≤ z i ∧ z i ≤ 255) (hr : Row w a n z) :
    Calls Try.prog 9 #[.slice a n c] w fun e w' => e = .returned (.bool (allD z n)) ∧ w' = w := by
  unfold maxLen at hn
  rcases hr with rfl | ⟨b, off, rfl, hc⟩
  · go_enter Try.func9, Try.ntmps9
    go_wp2
    refine wp_loop_rounds 1 ?_
    rw [rounds_succ]
    go_wp2
    go_ret
    exact ⟨rfl, rfl⟩
  · go_enter Try.func9, Try.ntmps9
    go_wp2
    go_loop [3] (fun i => ∃ k : Nat, k ≤ n ∧ i = .int .i64 k ∧ Hid (allD z k = true)) (fun i => n - (intOf i).toNat)
    case atStart => exact ⟨0, Nat.zero_le _, rfl, rfl⟩
    case round =>
      obtain ⟨k, hk, rfl, ha⟩ := hrel
      by_cases hlt : k < n
      · have hck := hc k hlt
        have hzk := hz k
        clear hc hz
        go_wp2
        · go_ret
          exact ⟨ret_bool (allD_bad z n k hlt (by omega)).symm, rfl⟩
        · go_round
          case rel => exact ⟨k + 1, by omega, by go_num, allD_succ z k ha.out (by omega) (by omega)⟩
          case measure => simp [intOf]; omega
        · go_ret
          exact ⟨ret_bool (allD_bad z n k hlt (by omega)).symm, rfl⟩
      · have hkn : k = n := by omega
        have HB : Hid (allD z n = true) := hkn ▸ ha.out
        clear hkn
        go_wp2
        go_ret
        exact ⟨ret_bool HB.out.symm, rfl⟩

theorem pow10_any (k : Nat) (w : World) (hk : k ≤ 18) :
    Calls Try.prog 11 #[.int .i64 k] w fun e w' => e = .returned (.int .i64 (ten k)) ∧ w' = w := by
  go_enter Try.func11, Try.ntmps11
  go_wp2
  go_loop [3, 4] (fun p i => ∃ j : Nat, j ≤ k ∧ i = .int .i64 j ∧ p = .int .i64 (ten j)) (fun _ i => k - (intOf i).toNat)
  case atStart => exact ⟨0, Nat.zero_le _, rfl, rfl⟩
  case round =>
    obtain ⟨j, hj, rfl, rfl⟩ := hrel
    have hp := ten_pos j
    by_cases hlt : j < k
    · have ht := ten_17 j (by omega)
      go_wp2
      go_round
      case rel => exact ⟨j + 1, by omega, by go_num, rfl⟩
      case measure => simp [intOf]; omega
    · have hjk : j = k := by omega
      have HB : Hid (j = k) := hjk
      clear hjk
      go_wp2
      go_ret
      exact ⟨ret_int (by rw [HB.out]), rfl⟩

theorem bytes7_any (a : Option Addr) (n c : Nat) (w : World) (hn : n ≤ maxLen) :
    Calls Try.prog 7 #[.slice a n c] w fun e w' => e = .returned (.bool (decide (n ≤ 1048576))) ∧ w' = w := by
  unfold maxLen at hn
  go_enter Try.func7, Try.ntmps7
  go_wp2
  · go_ret
    exact ⟨ret_bool (decide_eq_false (by omega)).symm, rfl⟩
  · go_ret
    exact ⟨ret_bool (decide_eq_true (by omega)).symm, rfl⟩

theorem bytes10_any (a : Option Addr) (n c : Nat) (k : Int) (w : World) (hn : n ≤ maxLen) :
    Calls Try.prog 10 #[.slice a n c, .int .i64 k] w fun e w' => e = .returned (.bool (decide (n ≤ 1048576))) ∧ w' = w := by
  unfold maxLen at hn
  go_enter Try.func10, Try.ntmps10
  go_wp2
  · go_ret
    exact ⟨ret_bool (decide_eq_false (by omega)).symm, rfl⟩
  · go_ret
    exact ⟨ret_bool (decide_eq_true (by omega)).symm, rfl⟩

theorem bytes12_any (a : Option Addr) (n c : Nat) (k b : Int) (w : World) (hn : n ≤ maxLen) :
    Calls Try.prog 12 #[.slice a n c, .int .i64 k, .int .u8 b] w fun e w' => e = .returned (.bool (decide (n ≤ 1048576))) ∧ w' = w := by
  unfold maxLen at hn
  go_enter Try.func12, Try.ntmps12
  go_wp2
  · go_ret
    exact ⟨ret_bool (decide_eq_false (by omega)).symm, rfl⟩
  · go_ret
    exact ⟨ret_bool (decide_eq_true (by omega)).symm, rfl⟩
end Go.Proofs.Qxb6617347a
