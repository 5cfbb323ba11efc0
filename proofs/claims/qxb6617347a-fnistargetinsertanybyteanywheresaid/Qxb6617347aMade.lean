/-
  'grown := make([]byte, len(text)+1)': its run equation, the world behind it a variable (seat b6617347a).
-/
import Derived.Test.Qxb6617347aCopied
import Derived.Test.Qxb6617347aTarget
namespace Go.Proofs.Qxb6617347a
open Go.RowKit Pl

theorem made_own (w : World) (n : Nat) (hn : n ≤ 1048576) : ∃ w3 : World,
    (Instr.makeSlice 22 (.int .i64 ((n : Int) + 1)) (.int .i64 ((n : Int) + 1))).run Try.prog w = .ok (.slice (some ⟨w.heap.size, 0, none⟩) (n + 1) (n + 1)) w3 ∧
    Hid (Own w3 w.heap.size (n + 1) (fun _ => 0)) ∧ Hid (Below w.heap.size w w3) ∧ w.heap.size < w3.heap.size := by
  obtain ⟨Z, hZ, hmk⟩ := made (n + 1) (by omega)
  have h := hmk w
  rw [show ((n + 1 : Nat) : Int) = (n : Int) + 1 by omega] at h
  refine ⟨_, h, ⟨fun i hi => ?_, fun i hi => ?_⟩, (Below.refl _ _).alloc (Nat.le_refl _) _, by simp⟩
  · rw [cell_of_row _ _ i Z 5 (0, 0) (heap_alloc_new w _), hZ.out]
    simp [hi]
  · have hg : (w.alloc (.cells Z 5)).heap[w.heap.size]? = some (.cells Z 5 (0, 0)) := heap_alloc_new w _
    simp only [World.frozen?, hg]; simp

/-- A row of bytes with all that the walk of isTarget asks. -/
def RowB (w : World) (a : Option Addr) (n : Nat) (z : Nat → Int) : Prop := Row w a n z ∧ (∀ i, 0 ≤ z i ∧ z i ≤ 255) ∧ n ≤ maxLen
theorem zzB {a : Option Addr} {n c : Nat} {z : Nat → Int} {w : World} (h : RowB w a n z) :
    Calls Try.prog 13 #[.slice a n c] w fun e w' => e = .returned (.bool (allV z n)) ∧ w' = w := zz_any a n c z w h.2.2 h.2.1 h.1
theorem rowB_one (c : Int) (h0 : 0 ≤ c) (h1 : c ≤ 255) (w : World) : RowB (w.alloc (.cells #[.int .u8 c] 5)) (some ⟨w.heap.size, 0, none⟩) 1 (fun _ => c) := by
  refine ⟨.inr ⟨_, 0, rfl, fun i hi => ?_⟩, fun _ => ⟨h0, h1⟩, by decide⟩
  obtain rfl : i = 0 := by omega
  rw [cell_of_row _ _ _ #[.int .u8 c] 5 (0, 0) (heap_alloc_new w _)]
  rfl
theorem cells_other {w : World} {g n : Nat} {z : Nat → Int} (h : ∀ t, t < n → w.cell? ⟨g, t, none⟩ = some (.int .u8 (z t))) {p : Addr} (hp : g ≠ p.block) (v : Value) :
    ∀ t, t < n → (w.setCell p v).cell? ⟨g, t, none⟩ = some (.int .u8 (z t)) :=
  fun t ht => (World.cell?_of_block (w := w) (Below.heap_setCell w p v g hp)).trans (h t ht)
theorem allV_one (c : Int) : allV (fun _ => c) 1 = visB c := by simp [allV]
end Go.Proofs.Qxb6617347a
