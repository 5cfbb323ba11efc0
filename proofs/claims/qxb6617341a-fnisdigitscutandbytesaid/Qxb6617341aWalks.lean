/-
  THE WALKS OF SEAT b6617341a: isDigits, ZZisDigits, zzBytes; the plain function that isDigits computes.
-/
import Derived.Test.Qxb6617341aRows
import Derived.WalkKit
import Derived.WalkSpells
import Derived.ProofKit
import Derived.Lib.Strings
import Derived.Laws.BytesArg
namespace Go.Proofs.Qxb6617341a.Dig
open Go.RowKit

/-- Is the byte a decimal digit? -/
def isD (c : UInt8) : Bool := decide (48 ≤ (c.toNat : Int) ∧ (c.toNat : Int) ≤ 57)
/-- Are all bytes decimal digits? -/
def allD (l : List UInt8) : Bool := l.all isD
/-- What isDigits computes: not empty, and digits alone. -/
def digL (l : List UInt8) : Bool := !l.isEmpty && allD l

theorem take_snoc (s : ByteArray) (k : Nat) (h : k < s.size) : s.toList.take (k + 1) = s.toList.take k ++ [s[k]] := by
  rw [Lib.toList_data, List.take_succ_eq_append_getElem (by simpa using h)]; rfl
theorem allD_append (a b : List UInt8) : allD (a ++ b) = (allD a && allD b) := by simp [allD]
theorem allD_snoc (s : ByteArray) (k : Nat) (h : k < s.size) (ha : allD (s.toList.take k) = true) (h1 : 48 ≤ (s[k].toNat : Int)) (h2 : (s[k].toNat : Int) ≤ 57) :
    allD (s.toList.take (k + 1)) = true := by
  rw [take_snoc s k h, allD_append, ha]; simp [allD, isD, h1, h2]
theorem allD_bad (s : ByteArray) (k : Nat) (h : k < s.size) (hb : ¬ (48 ≤ (s[k].toNat : Int) ∧ (s[k].toNat : Int) ≤ 57)) :
    allD s.toList = false := by
  rw [← List.take_append_drop (k + 1) s.toList, take_snoc s k h, allD_append, allD_append]
  have : allD [s[k]] = false := by simp only [allD, isD, List.all_cons, List.all_nil, Bool.and_true]; exact decide_eq_false hb
  rw [this]; simp
theorem digL_bad (s : ByteArray) (k : Nat) (h : k < s.size) (hb : ¬ (48 ≤ (s[k].toNat : Int) ∧ (s[k].toNat : Int) ≤ 57)) : digL s.toList = false := by
  rw [digL, allD_bad s k h hb]; simp
/-- THE PLAIN LAW: a text is digits exactly when it is not empty and each side of a cut is empty or digits. -/
theorem digL_cut (A B : List UInt8) : digL (A ++ B) = (!(A ++ B).isEmpty && (A.isEmpty || digL A) && (B.isEmpty || digL B)) := by
  cases A <;> cases B <;> simp [digL, allD, Bool.and_assoc]
theorem digL_law (s : ByteArray) (k : Nat) :
    digL s.toList = (!s.toList.isEmpty && ((s.extract 0 k).toList.isEmpty || digL (s.extract 0 k).toList) && ((s.extract k s.size).toList.isEmpty || digL (s.extract k s.size).toList)) := by
  have e1 : (s.extract 0 k).toList = s.toList.take k := by rw [Lib.extract_toList, Lib.toList_data]; simp
  have e2 : (s.extract k s.size).toList = s.toList.drop k := by
    rw [Lib.extract_toList, Lib.toList_data]; exact List.take_of_length_le (by rw [List.length_drop, ← Lib.size_eq]; omega)
  have := digL_cut (s.toList.take k) (s.toList.drop k)
  rw [List.take_append_drop] at this
  rw [e1, e2]; exact this
theorem ret_bool {a b : Bool} (h : a = b) : Ending.returned (.bool a) = .returned (.bool b) := by rw [h]

theorem ext_le {s : ByteArray} {a b : Nat} (h : s.size ≤ maxLen) : (s.extract a b).size ≤ maxLen := by
  have : (s.extract a b).size ≤ s.size := by simp; omega
  omega

theorem digits_any (s : ByteArray) (w : World) (hs : s.size ≤ maxLen) :
    Calls Try.prog 6 #[.string s] w fun e w' => e = .returned (.bool (digL s.toList)) ∧ w' = w := by
  unfold maxLen at hs
  go_enter Try.func6, Try.ntmps6
  go_wp2
  · have h : s.toList.isEmpty = true := by assumption
    go_ret
    exact ⟨ret_bool (by rw [digL, h]; rfl), rfl⟩
  · go_loop [3] (fun i => ∃ k : Nat, k ≤ s.size ∧ i = .int .i64 k ∧ Hid (allD (s.toList.take k) = true)) (fun i => s.size - (intOf i).toNat)
    case atStart => exact ⟨0, Nat.zero_le _, rfl, rfl⟩
    case round =>
      obtain ⟨k, hk, rfl, ha⟩ := hrel
      go_wp2
      · go_ret
        exact ⟨ret_bool (digL_bad s k (by assumption) (by omega)).symm, rfl⟩
      · go_round
        case rel => exact ⟨k + 1, by omega, by go_num, allD_snoc s k (by omega) ha.out (by omega) (by omega)⟩
        case measure => simp [intOf]; omega
      · go_ret
        exact ⟨ret_bool (digL_bad s k (by assumption) (by omega)).symm, rfl⟩
      · have h : s.toList.isEmpty = false := by assumption
        go_ret
        refine ⟨ret_bool ?_, rfl⟩
        have e : s.toList.take k = s.toList := List.take_of_length_le (by rw [Lib.toList_data, ← Lib.size_eq]; omega)
        have h2 := ha.out
        rw [e] at h2
        rw [digL, h, h2]; rfl

theorem zz_any (s : ByteArray) (w : World) (hs : s.size ≤ maxLen) :
    Calls Try.prog 5 #[.string s] w fun e w' => e = .returned (.bool (digL s.toList)) ∧ w' = w := by
  go_enter Try.func5, Try.ntmps5
  go_wp2_with (go_at_call 6; refine (digits_any _ _ hs).mono ?_; rintro e w' ⟨rfl, rfl⟩)
  go_ret
  exact ⟨rfl, rfl⟩

theorem bytes_any (s : ByteArray) (k c : Int) (w : World) (hs : s.size ≤ maxLen) :
    Calls Try.prog 4 #[.string s, .int .i64 k, .int .u8 c] w fun e w' => e = .returned (.bool (decide (s.size ≤ 1048576))) ∧ w' = w := by
  unfold maxLen at hs
  go_enter Try.func4, Try.ntmps4
  go_wp2
  · go_ret
    exact ⟨ret_bool (decide_eq_false (by omega)).symm, rfl⟩
  · go_ret
    exact ⟨ret_bool (decide_eq_true (by omega)).symm, rfl⟩
/-- 'string([]byte{c})': the string of one byte, by a name of its own: what its conversion gives, and what isDigits says of it. -/
theorem one_byte (c : Int) (h0 : 0 ≤ c) (h1 : c ≤ 255) : ∃ t : ByteArray, t.size ≤ maxLen ∧ Hid (digL t.toList = (decide (48 ≤ c) && decide (c ≤ 57))) ∧
    ∀ w : World, (convert 24 9 (.slice (some ⟨w.heap.size, 0, none⟩) 1 1)).run Try.prog (w.alloc (.cells #[.int .u8 c] 5)) = .ok (.string t) (w.alloc (.cells #[.int .u8 c] 5)) := by
  refine ⟨strOfNums [c], by rw [strOfNums_size]; simp [maxLen], ?_, fun w => ?_⟩
  · show digL _ = _
    rw [Lib.toList_data, strOfNums_data]
    have e : (c.toNat % 2 ^ 8 : Nat) = c.toNat := by omega
    have e2 : ((c.toNat : Nat) : Int) = c := by omega
    simp [digL, allD, isD, UInt8.toNat_ofNat', e, e2]
  · refine run_convert_bytes_arg _ 24 5 Try.underlying24 Try.underlying5 _ 0 1 1 [c] rfl (fun i hi => ?_) 9 Try.underlying9
    obtain rfl : i = 0 := by omega
    simp
end Go.Proofs.Qxb6617341a.Dig
