/-
  ISTARGET, THE PLAIN FUNCTION AND THE WALK; rows of bytes that the call itself owns (seat b6617347a).
-/
import Derived.Test.Qxb6617347aWalks
import Derived.Below
namespace Go.Proofs.Qxb6617347a
open Go.RowKit

namespace Pl
/-- Is the byte a visible ASCII character? -/
def visB (c : Int) : Bool := decide (33 ≤ c ∧ c ≤ 126)
/-- Are the first k bytes visible? -/
def allV (z : Nat → Int) : Nat → Bool
  | 0 => true
  | k + 1 => allV z k && visB (z k)
theorem allV_at (z : Nat → Int) : ∀ n, allV z n = true → ∀ i, i < n → visB (z i) = true
  | 0, _, i, hi => absurd hi (Nat.not_lt_zero _)
  | n + 1, h, i, hi => by
    simp only [allV, Bool.and_eq_true] at h
    rcases Nat.lt_succ_iff_lt_or_eq.1 hi with h' | rfl
    · exact allV_at z n h.1 i h'
    · exact h.2
theorem allV_of (z : Nat → Int) : ∀ n, (∀ i, i < n → visB (z i) = true) → allV z n = true
  | 0, _ => rfl
  | n + 1, h => by simp [allV, allV_of z n (fun i hi => h i (by omega)), h n (by omega)]
theorem allV_iff (z : Nat → Int) (n : Nat) : allV z n = true ↔ ∀ i, i < n → visB (z i) = true := ⟨allV_at z n, allV_of z n⟩
theorem allV_succ (z : Nat → Int) (k : Nat) (h : allV z k = true) (h1 : 33 ≤ z k) (h2 : z k ≤ 126) : allV z (k + 1) = true := by simp [allV, h, visB, h1, h2]
theorem allV_bad (z : Nat → Int) (n k : Nat) (hk : k < n) (hb : ¬ (33 ≤ z k ∧ z k ≤ 126)) : allV z n = false := by
  cases h : allV z n
  · rfl
  · have := allV_at z n h k hk
    rw [visB, decide_eq_true_eq] at this
    exact absurd this hb
/-- THE PLAIN LAW: the text with c put in at i is a target exactly when the text is one and c is visible. -/
theorem allV_insert (z G : Nat → Int) (n i : Nat) (c : Int) (hi : i ≤ n) (h1 : ∀ t, t < i → G t = z t) (h2 : G i = c) (h3 : ∀ t, i ≤ t → t < n → G (t + 1) = z t) :
    allV G (n + 1) = (allV z n && visB c) := by
  rw [Bool.eq_iff_iff, Bool.and_eq_true, allV_iff, allV_iff]
  constructor
  · intro h
    refine ⟨fun t ht => ?_, by rw [← h2]; exact h i (by omega)⟩
    by_cases hti : t < i
    · rw [← h1 t hti]; exact h t (by omega)
    · rw [← h3 t (by omega) ht]; exact h (t + 1) (by omega)
  · rintro ⟨h, hc⟩ t ht
    by_cases hti : t < i
    · rw [h1 t hti]; exact h t (by omega)
    · by_cases hte : t = i
      · rw [hte, h2]; exact hc
      · obtain ⟨u, rfl⟩ : ∃ u, t = u + 1 := ⟨t - 1, by omega⟩
        rw [h3 u (by omega) (by omega)]; exact h u (by omega)
end Pl
open Pl

theorem target_any (a : Option Addr) (n c : Nat) (z : Nat → Int) (w : World) (hn : n ≤ maxLen) (hz : ∀ i, 0 ≤ z i ∧ z i ≤ 255) (hr : Row w a n z) :
    Calls Try.prog 17 #[.slice a n c] w fun e w' => e = .returned (.bool (allV z n)) ∧ w' = w := by
  unfold maxLen at hn
  rcases hr with rfl | ⟨b, off, rfl, hc⟩
  · go_enter Try.func17, Try.ntmps17
    go_wp2
    refine wp_loop_rounds 1 ?_
    rw [rounds_succ]
    go_wp2
    go_ret
    exact ⟨rfl, rfl⟩
  · go_enter Try.func17, Try.ntmps17
    go_wp2
    go_loop [7] (fun i => ∃ k : Nat, k ≤ n ∧ i = .int .i64 k ∧ Hid (allV z k = true)) (fun i => n - (intOf i).toNat)
    case atStart => exact ⟨0, Nat.zero_le _, rfl, rfl⟩
    case round =>
      obtain ⟨k, hk, rfl, ha⟩ := hrel
      by_cases hlt : k < n
      · have hck := hc k hlt
        have hzk := hz k
        clear hc hz
        go_wp2
        · go_ret
          exact ⟨ret_bool (allV_bad z n k hlt (by omega)).symm, rfl⟩
        · go_round
          case rel => exact ⟨k + 1, by omega, by go_num, allV_succ z k ha.out (by omega) (by omega)⟩
          case measure => simp [intOf]; omega
        · go_ret
          exact ⟨ret_bool (allV_bad z n k hlt (by omega)).symm, rfl⟩
      · have hkn : k = n := by omega
        have HB : Hid (allV z n = true) := hkn ▸ ha.out
        clear hkn
        go_wp2
        go_ret
        exact ⟨ret_bool HB.out.symm, rfl⟩

theorem zz_any (a : Option Addr) (n c : Nat) (z : Nat → Int) (w : World) (hn : n ≤ maxLen) (hz : ∀ i, 0 ≤ z i ∧ z i ≤ 255) (hr : Row w a n z) :
    Calls Try.prog 13 #[.slice a n c] w fun e w' => e = .returned (.bool (allV z n)) ∧ w' = w := by
  go_enter Try.func13, Try.ntmps13
  go_wp2_with (go_at_call 17; refine (target_any _ _ _ z _ hn hz hr).mono ?_; rintro e w' ⟨rfl, rfl⟩)
  go_ret
  exact ⟨rfl, rfl⟩

/-- Block g holds the n bytes G, none of them frozen. -/
def Own (w : World) (g n : Nat) (G : Nat → Int) : Prop :=
  (∀ i, i < n → w.cell? ⟨g, i, none⟩ = some (.int .u8 (G i))) ∧ ∀ i, i < n → w.frozen? ⟨g, i, none⟩ = false

theorem Own.row {w : World} {g n : Nat} {G : Nat → Int} (h : Own w g n G) : Row w (some ⟨g, 0, none⟩) n G :=
  .inr ⟨g, 0, rfl, fun i hi => by simpa using h.1 i hi⟩
theorem Own.set {w : World} {g n : Nat} {G : Nat → Int} (h : Own w g n G) (j : Nat) (v : Int) : Own (w.setCell ⟨g, j, none⟩ (.int .u8 v)) g n (fun i => if i = j then v else G i) := by
  refine ⟨fun i hi => ?_, fun i hi => by rw [World.frozen?_setCell]; exact h.2 i hi⟩
  show _ = some (Value.int .u8 (if i = j then v else G i))
  by_cases hij : i = j
  · subst hij
    rw [if_pos rfl]
    exact World.cell?_setCell_same _ _ _ (h.1 i hi)
  · rw [if_neg hij, World.cell?_setCell_other _ _ _ _ (by intro e; injection e with e1 e2; exact hij e2.symm)]
    exact h.1 i hi
theorem Own.other {w : World} {g n : Nat} {G : Nat → Int} (h : Own w g n G) {p : Addr} (hp : g ≠ p.block) (v : Value) : Own (w.setCell p v) g n G := by
  refine ⟨fun i hi => ?_, fun i hi => ?_⟩
  · rw [World.cell?_of_block (w := w) (Below.heap_setCell w p v g hp)]; exact h.1 i hi
  · rw [World.frozen?_of_block (w := w) (Below.heap_setCell w p v g hp)]; exact h.2 i hi
end Go.Proofs.Qxb6617347a
