/-
  PLAIN LAWS OF SEAT b6617422a ON SLASHES: a text of n bytes is a function z : Nat → Int, read below n. No Go in sight.
-/
import Derived.Lib.Strings
namespace Go.Proofs.Qxb6617422a.Sl

/-- Byte k of a string as a number; 0 behind its end. -/
def bt (s : ByteArray) (k : Nat) : Int := if h : k < s.size then ((s[k]'h).toNat : Int) else 0
theorem bt_get (s : ByteArray) (n : Nat) (h : n < s.size) : ((s[n]'h).toNat : Int) = bt s n := by unfold bt; rw [dif_pos h]

/-- The last place of a slash among the first k bytes, or -1. -/
def lastIx (z : Nat → Int) : Nat → Int
  | 0 => -1
  | k + 1 => if z k = 47 then (k : Int) else lastIx z k
/-- How many slashes stand among the first k bytes. -/
def cnt (z : Nat → Int) : Nat → Nat
  | 0 => 0
  | k + 1 => if z k = 47 then cnt z k + 1 else cnt z k
/-- The first place of a slash among the first k bytes, or n. -/
def fst (z : Nat → Int) (n : Nat) : Nat → Nat
  | 0 => n
  | k + 1 => if z k = 47 ∧ cnt z k = 0 then k else fst z n k
/-- Is there a slash among the first k bytes? -/
def has (z : Nat → Int) : Nat → Bool
  | 0 => false
  | k + 1 => has z k || decide (z k = 47)

theorem last_spec (z : Nat → Int) : ∀ n, (lastIx z n = -1 ∧ ∀ j, j < n → z j ≠ 47) ∨ ∃ i : Nat, i < n ∧ lastIx z n = i ∧ z i = 47 ∧ ∀ j, i < j → j < n → z j ≠ 47
  | 0 => .inl ⟨rfl, fun _ h => absurd h (Nat.not_lt_zero _)⟩
  | n + 1 => by
    unfold lastIx
    split
    · rename_i h; exact .inr ⟨n, Nat.lt_succ_self n, rfl, h, fun j h1 h2 => by omega⟩
    · rename_i h
      rcases last_spec z n with ⟨e, hn⟩ | ⟨i, hi, e, hc, hn⟩
      · exact .inl ⟨e, fun j hj => by rcases Nat.lt_succ_iff_lt_or_eq.1 hj with h' | rfl; exact hn j h'; exact h⟩
      · exact .inr ⟨i, by omega, e, hc, fun j h1 h2 => by rcases Nat.lt_succ_iff_lt_or_eq.1 h2 with h' | rfl; exact hn j h1 h'; exact h⟩
theorem last_hit (z : Nat → Int) (k : Nat) (h1 : 1 ≤ k) (h : z (k - 1) = 47) : lastIx z k = (k : Int) - 1 := by
  obtain ⟨m, rfl⟩ : ∃ m, k = m + 1 := ⟨k - 1, by omega⟩
  have h' : z m = 47 := h
  rw [lastIx, if_pos h']; omega
theorem last_miss (z : Nat → Int) (k : Nat) (h1 : 1 ≤ k) (h : ¬ z (k - 1) = 47) : lastIx z k = lastIx z (k - 1) := by
  obtain ⟨m, rfl⟩ : ∃ m, k = m + 1 := ⟨k - 1, by omega⟩
  have h' : ¬ z m = 47 := h
  rw [lastIx, if_neg h']; rfl
theorem last_none (z : Nat → Int) (n : Nat) (h : ∀ j, j < n → z j ≠ 47) : lastIx z n = -1 := by
  rcases last_spec z n with ⟨e, _⟩ | ⟨i, hi, _, hc, _⟩
  · exact e
  · exact absurd hc (h i hi)
theorem last_at (z : Nat → Int) (n i : Nat) (hi : i < n) (hc : z i = 47) (h : ∀ j, i < j → j < n → z j ≠ 47) : lastIx z n = i := by
  rcases last_spec z n with ⟨_, hn⟩ | ⟨k, hk, e, hck, hn⟩
  · exact absurd hc (hn i hi)
  · obtain rfl : k = i := by
      rcases Nat.lt_trichotomy k i with h' | h' | h'
      · exact absurd hc (hn i h' hi)
      · exact h'
      · exact absurd hck (h k h' hk)
    exact e
theorem last_congr (z y : Nat → Int) : ∀ n, (∀ k, k < n → z k = y k) → lastIx z n = lastIx y n
  | 0, _ => rfl
  | n + 1, h => by unfold lastIx; rw [h n (by omega), last_congr z y n (fun k hk => h k (by omega))]

theorem has_no (z : Nat → Int) : ∀ n, (∀ j, j < n → z j ≠ 47) → has z n = false
  | 0, _ => rfl
  | n + 1, h => by unfold has; rw [has_no z n (fun j hj => h j (by omega)), decide_eq_false (h n (by omega))]; rfl
theorem has_yes (z : Nat → Int) (n k : Nat) (hk : k < n) (hc : z k = 47) : has z n = true := by
  induction n with
  | zero => omega
  | succ n ih =>
    unfold has
    by_cases h : k = n
    · subst h; rw [decide_eq_true hc]; simp
    · rw [ih (by omega)]; rfl
theorem has_succ (z : Nat → Int) (k : Nat) (h : has z k = false) (hc : ¬ z k = 47) : has z (k + 1) = false := by unfold has; rw [h, decide_eq_false hc]; rfl

theorem cnt_hit (z : Nat → Int) (k : Nat) (h : z k = 47) : cnt z (k + 1) = cnt z k + 1 := by rw [cnt, if_pos h]
theorem cnt_miss (z : Nat → Int) (k : Nat) (h : ¬ z k = 47) : cnt z (k + 1) = cnt z k := by rw [cnt, if_neg h]
theorem cnt_le (z : Nat → Int) : ∀ k, cnt z k ≤ k
  | 0 => Nat.le_refl _
  | k + 1 => by have := cnt_le z k; unfold cnt; split <;> omega
/-- Behind the place m no slash stands below m + d: the counts are one. -/
theorem cnt_flat (z : Nat → Int) (m : Nat) : ∀ d, (∀ j, m ≤ j → j < m + d → z j ≠ 47) → cnt z (m + d) = cnt z m
  | 0, _ => rfl
  | d + 1, h => by show cnt z ((m + d) + 1) = _; rw [cnt_miss z _ (h (m + d) (by omega) (by omega)), cnt_flat z m d (fun j h1 h2 => h j h1 (by omega))]
theorem cnt_zero (z : Nat → Int) (n : Nat) (h : ∀ j, j < n → z j ≠ 47) : cnt z n = 0 := by
  have := cnt_flat z 0 n (fun j _ hj => h j (by omega))
  rw [Nat.zero_add] at this; rw [this]; rfl
theorem cnt_last (z : Nat → Int) (m i : Nat) (hi : i < m) (hc : z i = 47) (h : ∀ j, i < j → j < m → z j ≠ 47) : cnt z m = cnt z i + 1 := by
  have := cnt_flat z (i + 1) (m - (i + 1)) (fun j h1 h2 => h j (by omega) (by omega))
  rw [show i + 1 + (m - (i + 1)) = m by omega] at this
  rw [this, cnt_hit z i hc]
theorem cnt_mono (z : Nat → Int) (m : Nat) : ∀ d, cnt z m ≤ cnt z (m + d)
  | 0 => Nat.le_refl _
  | d + 1 => by
    have := cnt_mono z m d
    show _ ≤ cnt z ((m + d) + 1)
    by_cases h : z (m + d) = 47
    · rw [cnt_hit z _ h]; omega
    · rw [cnt_miss z _ h]; exact this
theorem cnt_pos (z : Nat → Int) (n k : Nat) (hk : k < n) (h : z k = 47) : 1 ≤ cnt z n := by
  have := cnt_mono z (k + 1) (n - (k + 1))
  rw [show k + 1 + (n - (k + 1)) = n by omega, cnt_hit z k h] at this
  omega
theorem fst_le (z : Nat → Int) (n : Nat) : ∀ k, k ≤ n → fst z n k ≤ n
  | 0, _ => Nat.le_refl _
  | k + 1, h => by unfold fst; split; omega; exact fst_le z n k (by omega)
theorem fst_hit (z : Nat → Int) (n k : Nat) (h : z k = 47) (h0 : cnt z k = 0) : fst z n (k + 1) = k := by rw [fst, if_pos ⟨h, h0⟩]
theorem fst_miss (z : Nat → Int) (n k : Nat) (h : ¬ (z k = 47 ∧ cnt z k = 0)) : fst z n (k + 1) = fst z n k := by rw [fst, if_neg h]
theorem fst_keep (z : Nat → Int) (n m : Nat) (h : 1 ≤ cnt z m) : ∀ d, fst z n (m + d) = fst z n m
  | 0 => rfl
  | d + 1 => by
    have := cnt_mono z m d
    show fst z n ((m + d) + 1) = _
    rw [fst_miss z n _ (by omega), fst_keep z n m h d]
theorem fst_none (z : Nat → Int) (n : Nat) : ∀ k, (∀ j, j < k → z j ≠ 47) → fst z n k = n
  | 0, _ => rfl
  | k + 1, h => by rw [fst_miss z n k (fun x => h k (by omega) x.1), fst_none z n k (fun j hj => h j (by omega))]
/-- WHERE THE CHAIN ENDS: the first m bytes hold no slash, and m is the end or a slash stands there: m is the place of the first slash. -/
theorem fst_root (z : Nat → Int) (n m : Nat) (hm : m ≤ n) (h : ∀ j, j < m → z j ≠ 47) (he : m = n ∨ (m < n ∧ z m = 47)) : fst z n n = m := by
  rcases he with rfl | ⟨hl, hc⟩
  · exact fst_none z m m h
  · have := fst_keep z n (m + 1) (by rw [cnt_hit z m hc]; omega) (n - (m + 1))
    rw [show m + 1 + (n - (m + 1)) = n by omega] at this
    rw [this, fst_hit z n m hc (cnt_zero z m h)]

/-! ### Strings -/
theorem toList_add (a b : ByteArray) : (a ++ b).toList = a.toList ++ b.toList := by
  rw [Lib.toList_data, Lib.toList_data, Lib.toList_data, ByteArray.data_append, Array.toList_append]
theorem size_toList (s : ByteArray) : s.toList.length = s.size := by rw [Lib.toList_data, ← Lib.size_eq]
theorem bt_list (s : ByteArray) (k : Nat) : bt s k = ((s.toList[k]?).map (fun c : UInt8 => (c.toNat : Int))).getD 0 := by
  unfold bt
  split
  · rename_i h
    have h' : k < s.data.toList.length := by rw [← Lib.size_eq]; exact h
    rw [Lib.toList_data, List.getElem?_eq_getElem h']
    rfl
  · rename_i h
    rw [Lib.toList_data, List.getElem?_eq_none (by rw [← Lib.size_eq]; omega)]
    rfl
theorem bt_of_toList {s t : ByteArray} (h : s.toList = t.toList) (k : Nat) : bt s k = bt t k := by rw [bt_list, bt_list, h]
/-- A string that reads as the first m bytes of s: its bytes. -/
theorem bt_take {p s : ByteArray} {m : Nat} (h : p.toList = s.toList.take m) (k : Nat) (hk : k < m) : bt p k = bt s k := by
  rw [bt_list, bt_list, h, List.getElem?_take, if_pos hk]
theorem bt_drop {p s : ByteArray} {m : Nat} (h : p.toList = s.toList.drop m) (k : Nat) : bt p k = bt s (m + k) := by
  rw [bt_list, bt_list, h, List.getElem?_drop]
theorem extract_take (s : ByteArray) (i : Nat) : (s.extract 0 i).toList = s.toList.take i := by
  rw [Lib.extract_toList, Lib.toList_data]; simp
theorem extract_drop (s : ByteArray) (i : Nat) : (s.extract i s.size).toList = s.toList.drop i := by
  rw [Lib.extract_toList, Lib.toList_data]
  exact List.take_of_length_le (by rw [List.length_drop, ← Lib.size_eq]; omega)
end Go.Proofs.Qxb6617422a.Sl
