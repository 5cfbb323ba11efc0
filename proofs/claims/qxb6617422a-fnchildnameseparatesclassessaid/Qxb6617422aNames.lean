/-
  THE NAMES OF CHILD SPANS: the plain functions, the plain law and the walks (seat b6617422a).
-/
import Derived.Test.Qxb6617422aRows
import Derived.WalkKit
import Derived.WalkSpells
import Derived.ProofKit
import Derived.Lib.Strings
namespace Go.Proofs.Qxb6617422a
open Go.RowKit

namespace Pl
theorem toList_add (a b : ByteArray) : (a ++ b).toList = a.toList ++ b.toList := by
  rw [Lib.toList_data, Lib.toList_data, Lib.toList_data, ByteArray.data_append, Array.toList_append]
theorem size_toList (s : ByteArray) : s.toList.length = s.size := by rw [Lib.toList_data, ← Lib.size_eq]

theorem u8_72 (b : UInt8) (e : ((b.toNat : Int) == 72) = true) : b = 72 := by
  have e' : (b.toNat : Int) = 72 := by simpa using e
  have e2 : b.toNat = 72 := by omega
  exact UInt8.toNat.inj e2

/-- The bytes of 'child(hook:', 'child(class:', 'hook', 'unknown'. -/
def preH : List UInt8 := [99, 104, 105, 108, 100, 40, 104, 111, 111, 107, 58]
def preC : List UInt8 := [99, 104, 105, 108, 100, 40, 99, 108, 97, 115, 115, 58]
def unk : List UInt8 := [117, 110, 107, 110, 111, 119, 110]

/-- The kind of child: a letter and a text. -/
def kind (c h : List UInt8) : UInt8 × List UInt8 := if c = [104, 111, 111, 107] then (72, h) else if c = [63] ∨ c = [] then (67, unk) else (67, c)
/-- The name of a kind. -/
def nameOf (b : UInt8) (t : List UInt8) : List UInt8 := if b = 72 then preH ++ t ++ [41] else preC ++ t ++ [41]
def nameL (c h : List UInt8) : List UInt8 := nameOf (kind c h).1 (kind c h).2
def keyL (c h : List UInt8) : List UInt8 := (kind c h).1 :: (kind c h).2

theorem kind_letter (c h : List UInt8) : (kind c h).1 = 72 ∨ (kind c h).1 = 67 := by
  unfold kind; split
  · exact .inl rfl
  · split <;> exact .inr rfl
theorem kind_hook {c : List UInt8} (h : List UInt8) (e : c = [104, 111, 111, 107]) : kind c h = (72, h) := by rw [kind, if_pos e]
theorem kind_unk {c : List UInt8} (h : List UInt8) (e : ¬ c = [104, 111, 111, 107]) (e2 : c = [63] ∨ c = []) : kind c h = (67, unk) := by rw [kind, if_neg e, if_pos e2]
theorem kind_other {c : List UInt8} (h : List UInt8) (e : ¬ c = [104, 111, 111, 107]) (e2 : ¬ (c = [63] ∨ c = [])) : kind c h = (67, c) := by rw [kind, if_neg e, if_neg e2]
theorem kind_len (c h : List UInt8) : (kind c h).2.length ≤ c.length + h.length + 7 := by
  unfold kind; split
  · show h.length ≤ _; omega
  · split
    · show unk.length ≤ _; simp [unk]
    · show c.length ≤ _; omega
/-- THE PLAIN LAW: two kinds have one name exactly when they have one key. -/
theorem name_key (c1 h1 c2 h2 : List UInt8) : nameL c1 h1 = nameL c2 h2 ↔ keyL c1 h1 = keyL c2 h2 := by
  unfold nameL keyL
  have l1 := kind_letter c1 h1
  have l2 := kind_letter c2 h2
  generalize kind c1 h1 = k1 at l1
  generalize kind c2 h2 = k2 at l2
  obtain ⟨b1, t1⟩ := k1
  obtain ⟨b2, t2⟩ := k2
  simp only at l1 l2
  rcases l1 with rfl | rfl <;> rcases l2 with rfl | rfl <;> simp [nameOf, preH, preC]
/-- The law's first test, as the walk writes it. -/
theorem name_key_test {n1 n2 k1 k2 c1 h1 c2 h2 : List UInt8} (e1 : n1 = nameL c1 h1) (e2 : n2 = nameL c2 h2) (e3 : k1 = keyL c1 h1) (e4 : k2 = keyL c2 h2) : (!(n1 == n2) == (k1 == k2)) = false := by
  subst e1; subst e2; subst e3; subst e4
  have h := name_key c1 h1 c2 h2
  have q : (nameL c1 h1 == nameL c2 h2) = (keyL c1 h1 == keyL c2 h2) := by rw [Bool.eq_iff_iff, beq_iff_eq, beq_iff_eq]; exact h
  rw [q]
  cases (keyL c1 h1 == keyL c2 h2) <;> rfl
end Pl
open Pl

theorem ret_str {a b : ByteArray} (h : a = b) : Ending.returned (.string a) = .returned (.string b) := by rw [h]

theorem child_any (c h : ByteArray) (w : World) (hc : c.size ≤ 1048576) (hh : h.size ≤ 1048576) :
    Calls Try.prog 14 #[.string c, .string h] w fun e w' => ∃ r : ByteArray, e = .returned (.string r) ∧ Hid (r.toList = nameL c.toList h.toList) ∧ w' = w := by
  go_enter Try.func14, Try.ntmps14
  go_wp2
  · have e : (c.toList == [104, 111, 111, 107]) = true := by assumption
    go_ret
    refine ⟨_, rfl, ?_, rfl⟩
    show _ = nameOf _ _
    rw [kind_hook _ (by simpa using e), toList_add, toList_add, Lib.toList_data, Lib.toList_data ⟨#[41]⟩]
    rfl
  · have e : (c.toList == [104, 111, 111, 107]) = false := by assumption
    have e2 : (c.toList == [63]) = true := by assumption
    go_ret
    refine ⟨_, rfl, ?_, rfl⟩
    show _ = nameOf _ _
    rw [kind_unk _ (by simpa using e) (.inl (by simpa using e2)), Lib.toList_data]
    rfl
  · have e1 : (c.toList == [63]) = true := by assumption
    have e2 : (c.toList == [63]) = false := by assumption
    rw [e1] at e2; cases e2
  · have e : (c.toList == [104, 111, 111, 107]) = false := by assumption
    have e2 : c.toList.isEmpty = true := by assumption
    go_ret
    refine ⟨_, rfl, ?_, rfl⟩
    show _ = nameOf _ _
    rw [kind_unk _ (by simpa using e) (.inr (by simpa using e2)), Lib.toList_data]
    rfl
  · have e : (c.toList == [104, 111, 111, 107]) = false := by assumption
    have e2 : (c.toList == [63]) = false := by assumption
    have e3 : c.toList.isEmpty = false := by assumption
    go_ret
    refine ⟨_, rfl, ?_, rfl⟩
    show _ = nameOf _ _
    rw [kind_other _ (by simpa using e) (by intro h; rcases h with h | h <;> simp [h] at e2 e3), toList_add, toList_add, Lib.toList_data, Lib.toList_data ⟨#[41]⟩]
    rfl

theorem zzchild_any (c h : ByteArray) (w : World) (hc : c.size ≤ 1048576) (hh : h.size ≤ 1048576) :
    Calls Try.prog 7 #[.string c, .string h] w fun e w' => ∃ r : ByteArray, e = .returned (.string r) ∧ Hid (r.toList = nameL c.toList h.toList) ∧ w' = w := by
  go_enter Try.func7, Try.ntmps7
  go_wp2_with (go_at_call 14; refine (child_any _ _ _ hc hh).mono ?_; rintro e w' ⟨r, rfl, hr, rfl⟩)
  go_ret
  exact ⟨_, rfl, by assumption, rfl⟩

theorem key_any (c h : ByteArray) (w : World) (hc : c.size ≤ 1048576) (hh : h.size ≤ 1048576) :
    Calls Try.prog 8 #[.string c, .string h] w fun e w' => ∃ r : ByteArray, e = .returned (.string r) ∧ Hid (r.toList = keyL c.toList h.toList) ∧ w' = w := by
  go_enter Try.func8, Try.ntmps8
  go_wp2
  · have e : (c.toList == [104, 111, 111, 107]) = true := by assumption
    go_ret
    refine ⟨_, rfl, ?_, rfl⟩
    show _ = _ :: _
    rw [kind_hook _ (by simpa using e), toList_add, Lib.toList_data]
    rfl
  · have e : (c.toList == [104, 111, 111, 107]) = false := by assumption
    have e2 : c.toList = [63] := by assumption
    go_ret
    refine ⟨_, rfl, ?_, rfl⟩
    show _ = _ :: _
    rw [kind_unk _ (by simpa using e) (.inl e2), Lib.toList_data]
    rfl
  · have e : (c.toList == [104, 111, 111, 107]) = false := by assumption
    have e2 : (c.toList == [63]) = true ∨ c.toList.isEmpty = true := by assumption
    go_ret
    refine ⟨_, rfl, ?_, rfl⟩
    show _ = _ :: _
    rw [kind_unk _ (by simpa using e) (by simpa using e2), Lib.toList_data]
    rfl
  · have e : (c.toList == [104, 111, 111, 107]) = false := by assumption
    have e2 : (c.toList == [63]) = false ∧ c.toList.isEmpty = false := by assumption
    go_ret
    refine ⟨_, rfl, ?_, rfl⟩
    show _ = _ :: _
    rw [kind_other _ (by simpa using e) (by intro h; rcases h with h | h <;> simp [h] at e2), toList_add, Lib.toList_data]
    rfl

theorem of_any (k : ByteArray) (b : UInt8) (t : List UInt8) (w : World) (hk : k.size ≤ 2097152) (hkt : Hid (k.toList = b :: t)) :
    Calls Try.prog 9 #[.string k] w fun e w' => ∃ r : ByteArray, e = .returned (.string r) ∧ Hid (r.toList = nameOf b t) ∧ w' = w := by
  have h0 : 0 < k.size := by rw [← size_toList, hkt.out]; simp
  have hb : Hid (k[0] = b) := by
    have h1 : k.data.toList = b :: t := by rw [← Lib.toList_data]; exact hkt.out
    have h2 : k[0] = k.data.toList[0]'(by rw [h1]; simp) := rfl
    show _ = _
    rw [h2]; simp [h1]
  have ht : Hid ((k.extract 1 k.size).toList = t) := by
    show _ = _
    rw [Lib.extract_toList, ← Lib.toList_data, hkt.out]
    have hl : k.size = t.length + 1 := by rw [← size_toList, hkt.out]; simp
    simp [hl]
  go_enter Try.func9, Try.ntmps9
  go_wp2
  · have e : ((k[0].toNat : Int) == 72) = true := by assumption
    go_ret
    refine ⟨_, rfl, ?_, rfl⟩
    have eb : b = 72 := by rw [hb.out] at e; exact u8_72 b e
    show _ = nameOf _ _
    rw [toList_add, toList_add, ht.out, Lib.toList_data, Lib.toList_data ⟨#[41]⟩, eb]
    rfl
  · have e : ((k[0].toNat : Int) == 72) = false := by assumption
    go_ret
    refine ⟨_, rfl, ?_, rfl⟩
    have eb : ¬ b = 72 := by intro h; rw [hb.out, h] at e; simp at e
    show _ = nameOf _ _
    rw [toList_add, toList_add, ht.out, Lib.toList_data, Lib.toList_data ⟨#[41]⟩, nameOf, if_neg eb]
    rfl

theorem bytes6_any (c1 h1 c2 h2 : ByteArray) (w : World) (a1 : c1.size ≤ maxLen) (a2 : h1.size ≤ maxLen) (a3 : c2.size ≤ maxLen) (a4 : h2.size ≤ maxLen) :
    Calls Try.prog 6 #[.string c1, .string h1, .string c2, .string h2] w fun e w' => e = .returned (.bool (decide (c1.size + h1.size + c2.size + h2.size ≤ 1048576))) ∧ w' = w := by
  unfold maxLen at a1 a2 a3 a4
  go_enter Try.func6, Try.ntmps6
  go_wp2
  all_goals
    go_ret
    first
      | exact ⟨congrArg _ (congrArg _ (decide_eq_true (by omega)).symm), rfl⟩
      | exact ⟨congrArg _ (congrArg _ (decide_eq_false (by omega)).symm), rfl⟩
end Go.Proofs.Qxb6617422a
