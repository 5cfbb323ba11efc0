/-
  THE WALKS OF SEAT b6617422a that two laws share: LastIndexByteString, LastIndexByte, parentSID, ZZparentSID, zzHasSlash, the bounds on length.
-/
import Derived.Test.Qxb6617422aRows
import Derived.Test.Qxb6617422aSlash
import Derived.WalkKit
import Derived.WalkSpells
import Derived.ProofKit
namespace Go.Proofs.Qxb6617422a
open Go.RowKit Sl

theorem ret_bool' {a b : Bool} (h : a = b) : Ending.returned (.bool a) = .returned (.bool b) := by rw [h]
theorem ret_int' {k : IntKind} {a b : Int} (h : a = b) : Ending.returned (.int k a) = .returned (.int k b) := by rw [h]

theorem lastStr_any (s : ByteArray) (w : World) (hs : s.size ≤ 4194304) :
    Calls Try.prog 17 #[.string s, .int .u8 47] w fun e w' => e = .returned (.int .i64 (lastIx (bt s) s.size)) ∧ w' = w := by
  go_enter Try.func17, Try.ntmps17
  go_wp2
  go_loop [5] (fun v => ∃ k : Nat, k ≤ s.size ∧ v = .int .i64 ((k : Int) - 1) ∧ Hid (lastIx (bt s) s.size = lastIx (bt s) k)) (fun v => (intOf v + 1).toNat)
  case atStart => exact ⟨s.size, Nat.le_refl _, by first | rfl | go_num, rfl⟩
  case round =>
    obtain ⟨k, hk, rfl, hh⟩ := hrel
    by_cases h1 : 1 ≤ k
    · have hb := bt_get s (k - 1) (by omega)
      go_wp2
      · have h : (bt s (k - 1) == 47) = true := by assumption
        go_ret
        exact ⟨ret_int' (by rw [hh.out, last_hit _ _ h1 (by simpa using h)]), rfl⟩
      · have h : (bt s (k - 1) == 47) = false := by assumption
        go_round
        case rel => exact ⟨k - 1, by omega, by go_num, hh.out.trans (last_miss _ _ h1 (by simpa using h))⟩
        case measure => simp [intOf]; omega
    · have hk0 : k = 0 := by omega
      have H0 : Hid (lastIx (bt s) s.size = -1) := by have := hh.out; rw [hk0] at this; exact this
      clear hk0 hh
      go_wp2
      go_ret
      exact ⟨ret_int' H0.out.symm, rfl⟩

theorem hasSlash_any (s : ByteArray) (w : World) (hs : s.size ≤ 4194304) :
    Calls Try.prog 12 #[.string s] w fun e w' => e = .returned (.bool (has (bt s) s.size)) ∧ w' = w := by
  go_enter Try.func12, Try.ntmps12
  go_wp2
  go_loop [3] (fun v => ∃ k : Nat, k ≤ s.size ∧ v = .int .i64 k ∧ Hid (has (bt s) k = false)) (fun v => s.size - (intOf v).toNat)
  case atStart => exact ⟨0, Nat.zero_le _, rfl, rfl⟩
  case round =>
    obtain ⟨k, hk, rfl, hh⟩ := hrel
    by_cases hlt : k < s.size
    · have hb := bt_get s k hlt
      go_wp2
      · have h : (bt s k == 47) = true := by assumption
        go_ret
        exact ⟨ret_bool' (has_yes _ _ k hlt (by simpa using h)).symm, rfl⟩
      · have h : (bt s k == 47) = false := by assumption
        go_round
        case rel => exact ⟨k + 1, by omega, by go_num, has_succ _ _ hh.out (by simpa using h)⟩
        case measure => simp [intOf]; omega
    · have hkn : k = s.size := by omega
      have H0 : Hid (has (bt s) s.size = false) := hkn ▸ hh.out
      clear hkn hh
      go_wp2
      go_ret
      exact ⟨ret_bool' H0.out.symm, rfl⟩

theorem noSlash_any (s : ByteArray) (w : World) (hs : s.size ≤ 4194304) (h : has (bt s) s.size = false) :
    Calls Try.prog 12 #[.string s] w fun e w' => e = .returned (.bool false) ∧ w' = w :=
  (hasSlash_any s w hs).mono fun e w' ⟨he, hw⟩ => ⟨by rw [he, h], hw⟩

theorem lastByte_any (s : ByteArray) (w : World) (hs : s.size ≤ 4194304) :
    Calls Try.prog 16 #[.string s, .int .u8 47] w fun e w' => e = .returned (.int .i64 (lastIx (bt s) s.size)) ∧ w' = w := by
  go_enter Try.func16, Try.ntmps16
  go_wp2_with (go_at_call 17; refine (lastStr_any _ _ hs).mono ?_; rintro e w' ⟨rfl, rfl⟩)
  go_ret
  exact ⟨rfl, rfl⟩

/-- No slash: the empty string and false. -/
theorem parent_no (s : ByteArray) (w : World) (hs : s.size ≤ 4194304) (h : lastIx (bt s) s.size = -1) :
    Calls Try.prog 15 #[.string s] w fun e w' => e = .returned (.tuple #[.string ⟨#[]⟩, .bool false]) ∧ w' = w := by
  go_enter Try.func15, Try.ntmps15
  go_wp2_with (go_at_call 16; refine (lastByte_any _ _ hs).mono ?_; rintro e w' ⟨rfl, rfl⟩)
  go_ret2
  exact ⟨rfl, rfl⟩

/-- The last slash stands at i: the first i bytes and true. -/
theorem parent_yes (s : ByteArray) (i : Nat) (w : World) (hs : s.size ≤ 4194304) (hi : i < s.size) (h : lastIx (bt s) s.size = (i : Int)) :
    Calls Try.prog 15 #[.string s] w fun e w' => ∃ p : ByteArray, e = .returned (.tuple #[.string p, .bool true]) ∧ p.size = i ∧ Hid (p.toList = s.toList.take i) ∧ w' = w := by
  go_enter Try.func15, Try.ntmps15
  go_wp2_with (go_at_call 16; refine (lastByte_any _ _ hs).mono ?_; rintro e w' ⟨rfl, rfl⟩)
  go_ret2
  exact ⟨_, rfl, by simp; omega, extract_take s i, rfl⟩

theorem zz_no (s : ByteArray) (w : World) (hs : s.size ≤ 4194304) (h : lastIx (bt s) s.size = -1) :
    Calls Try.prog 11 #[.string s] w fun e w' => e = .returned (.tuple #[.string ⟨#[]⟩, .bool false]) ∧ w' = w := by
  go_enter Try.func11, Try.ntmps11
  go_wp2_with (go_at_call 15; refine (parent_no _ _ hs h).mono ?_; rintro e w' ⟨rfl, rfl⟩)
  go_ret2
  exact ⟨rfl, rfl⟩
theorem zz_yes (s : ByteArray) (i : Nat) (w : World) (hs : s.size ≤ 4194304) (hi : i < s.size) (h : lastIx (bt s) s.size = (i : Int)) :
    Calls Try.prog 11 #[.string s] w fun e w' => ∃ p : ByteArray, e = .returned (.tuple #[.string p, .bool true]) ∧ p.size = i ∧ Hid (p.toList = s.toList.take i) ∧ w' = w := by
  go_enter Try.func11, Try.ntmps11
  go_wp2_with (go_at_call 15; refine (parent_yes _ i _ hs hi h).mono ?_; rintro e w' ⟨p, rfl, hp, hl, rfl⟩)
  go_ret2
  exact ⟨_, rfl, by assumption, by assumption, rfl⟩

theorem bytes10_any (s t : ByteArray) (w : World) (hs : s.size ≤ maxLen) (ht : t.size ≤ maxLen) :
    Calls Try.prog 10 #[.string s, .string t] w fun e w' => e = .returned (.bool (decide (s.size + t.size ≤ 1048576))) ∧ w' = w := by
  unfold maxLen at hs ht
  go_enter Try.func10, Try.ntmps10
  go_wp2
  all_goals
    go_ret
    first
      | exact ⟨ret_bool' (decide_eq_true (by omega)).symm, rfl⟩
      | exact ⟨ret_bool' (decide_eq_false (by omega)).symm, rfl⟩
theorem bytes13_any (s : ByteArray) (w : World) (hs : s.size ≤ maxLen) :
    Calls Try.prog 13 #[.string s] w fun e w' => e = .returned (.bool (decide (s.size ≤ 1048576))) ∧ w' = w := by
  unfold maxLen at hs
  go_enter Try.func13, Try.ntmps13
  go_wp2
  all_goals
    go_ret
    first
      | exact ⟨ret_bool' (decide_eq_true (by omega)).symm, rfl⟩
      | exact ⟨ret_bool' (decide_eq_false (by omega)).symm, rfl⟩
end Go.Proofs.Qxb6617422a
