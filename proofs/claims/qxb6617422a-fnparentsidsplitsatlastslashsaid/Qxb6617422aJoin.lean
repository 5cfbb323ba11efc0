/-
  PLAIN LAWS OF SEAT b6617422a: two texts joined by a slash. No Go in sight.
-/
import Derived.Test.Qxb6617422aSlash
namespace Go.Proofs.Qxb6617422a.Sl

theorem join_list (s t : ByteArray) : (s ++ ⟨#[47]⟩ ++ t).toList = s.toList ++ 47 :: t.toList := by
  rw [toList_add, toList_add, Lib.toList_data ⟨#[47]⟩, List.append_assoc]; rfl
theorem join_size (s t : ByteArray) : (s ++ ⟨#[47]⟩ ++ t).size = s.size + 1 + t.size := by
  rw [← size_toList, join_list, List.length_append, List.length_cons, size_toList, size_toList]; omega
theorem join_mid (s t : ByteArray) : bt (s ++ ⟨#[47]⟩ ++ t) s.size = 47 := by
  rw [bt_list, join_list, List.getElem?_append_right (by rw [size_toList]; omega), size_toList, Nat.sub_self]; rfl
theorem join_tail (s t : ByteArray) (k : Nat) : bt (s ++ ⟨#[47]⟩ ++ t) (s.size + 1 + k) = bt t k := by
  rw [bt_list, join_list, List.getElem?_append_right (by rw [size_toList]; omega), size_toList, show s.size + 1 + k - s.size = k + 1 by omega, List.getElem?_cons_succ, ← bt_list]

theorem last_join_no (s t : ByteArray) (h : ∀ j, j < t.size → bt t j ≠ 47) : lastIx (bt (s ++ ⟨#[47]⟩ ++ t)) (s ++ ⟨#[47]⟩ ++ t).size = (s.size : Int) := by
  refine last_at _ _ _ (by rw [join_size]; omega) (join_mid s t) (fun j h1 h2 => ?_)
  rw [join_size] at h2
  obtain ⟨k, rfl⟩ : ∃ k, j = s.size + 1 + k := ⟨j - s.size - 1, by omega⟩
  rw [join_tail]; exact h k (by omega)
theorem last_join_yes (s t : ByteArray) (i : Nat) (hi : i < t.size) (hc : bt t i = 47) (h : ∀ j, i < j → j < t.size → bt t j ≠ 47) :
    lastIx (bt (s ++ ⟨#[47]⟩ ++ t)) (s ++ ⟨#[47]⟩ ++ t).size = ((s.size + 1 + i : Nat) : Int) := by
  refine last_at _ _ _ (by rw [join_size]; omega) (by rw [join_tail]; exact hc) (fun j h1 h2 => ?_)
  rw [join_size] at h2
  obtain ⟨k, rfl⟩ : ∃ k, j = s.size + 1 + k := ⟨j - s.size - 1, by omega⟩
  rw [join_tail]; exact h k (by omega) (by omega)
theorem take_join_no (s t p : ByteArray) (h : p.toList = (s ++ ⟨#[47]⟩ ++ t).toList.take s.size) : (p.toList == s.toList) = true := by
  rw [beq_iff_eq, h, join_list, ← size_toList s, List.take_left]
theorem take_join_yes (s t p q : ByteArray) (i : Nat) (h : p.toList = (s ++ ⟨#[47]⟩ ++ t).toList.take (s.size + 1 + i)) (hq : q.toList = t.toList.take i) : (p.toList == (s ++ ⟨#[47]⟩ ++ q).toList) = true := by
  rw [beq_iff_eq, h, join_list, join_list, hq, List.take_append, size_toList, List.take_of_length_le (by rw [size_toList]; omega), show s.size + 1 + i - s.size = i + 1 by omega, List.take_succ_cons]
/-- Behind the last slash no slash stands. -/
theorem has_behind (s : ByteArray) (i : Nat) (h : ∀ j, i < j → j < s.size → bt s j ≠ 47) : has (bt (s.extract (i + 1) s.size)) (s.extract (i + 1) s.size).size = false := by
  refine has_no _ _ (fun j hj => ?_)
  rw [bt_drop (extract_drop s (i + 1))]
  have : j < s.size - (i + 1) := by simpa using hj
  exact h _ (by omega) (by omega)
end Go.Proofs.Qxb6617422a.Sl
