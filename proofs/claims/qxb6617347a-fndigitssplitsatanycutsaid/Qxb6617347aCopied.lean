/-
  'zzc := make([]byte, len(text)); copy(zzc, text)': the two operations of the preamble that all four laws of seat b6617347a share, as two run equations with the world behind the copy a variable.
-/
import Derived.Test.Qxb6617347aWalks
import Derived.Laws.CopyOwn
import Derived.OwnWalk
namespace Go.Proofs.Qxb6617347a
open Go.RowKit Pl

theorem Try.info5 : (Try.prog.info? 5).map (fun i => (i.zero, i.size, i.bytes)) = some (some (.int .u8 0), 1, 1) := by kernel_rfl

theorem made (n : Nat) (hn : n ≤ 1048577) : ∃ Z : Array Value, Hid (Z = (List.replicate n (.int .u8 0)).toArray) ∧
    ∀ w : World, (Instr.makeSlice 22 (.int .i64 n) (.int .i64 n)).run Try.prog w = .ok (.slice (some ⟨w.heap.size, 0, none⟩) n n) (w.alloc (.cells Z 5)) := by
  obtain ⟨i0, hi, hz0, hz1, hz2⟩ := info_parts Try.info5
  refine ⟨_, rfl, fun w => ?_⟩
  have h := run_make (P := Try.prog) w 22 5 i0 _ Try.underlying22 hi hz0 .i64 .i64 n n (by omega) (Int.le_refl _) (by rw [hz2]; omega) (by omega)
  rw [h, hz1]
  simp only [Int.toNat_natCast, Nat.mul_one]
  rw [← toList_madeCells_one]
  rfl

theorem copied (w : World) (x : Addr) (n cap : Nat) (zs : List Int) (hn : n ≤ 1048576) (hl : n ≤ zs.length)
    (hc : ∀ i, i < zs.length → w.cell? (x.add i) = some (.int .u8 (zs.getD i 0))) :
    ∃ (Z : Array Value) (w2 : World),
      (Instr.makeSlice 22 (.int .i64 n) (.int .i64 n)).run Try.prog w = .ok (.slice (some ⟨w.heap.size, 0, none⟩) n n) (w.alloc (.cells Z 5)) ∧
      (∀ ty, (Builtin.copy_ #[22, 22] ty #[.slice (some ⟨w.heap.size, 0, none⟩) n n, .slice (some x) n cap]).run Try.prog (w.alloc (.cells Z 5)) = .ok (.int .i64 n) w2) ∧
      Hid (Below w.heap.size w w2) ∧ w.heap.size < w2.heap.size ∧
      Hid (∀ i, i < n → w2.cell? ⟨w.heap.size, i, none⟩ = some (.int .u8 (zs.getD i 0))) := by
  obtain ⟨Z, hZ, hmk⟩ := made n (by omega)
  have hb : Below w.heap.size w (w.alloc (.cells Z 5)) := (Below.refl _ _).alloc (Nat.le_refl _) _
  have hg : (w.alloc (.cells Z 5)).heap[w.heap.size]? = some (.cells Z 5 (0, 0)) := heap_alloc_new w _
  have hsz : (Try.prog.info? 5).map (·.size) = some 1 := by kernel_rfl
  have hZs : Z.size = n := by rw [hZ.out]; simp
  by_cases h0 : n = 0
  · refine ⟨Z, w.alloc (.cells Z 5), hmk w, fun ty => ?_, hb, by simp, fun i hi => by omega⟩
    have := run_copy_none (P := Try.prog) (w.alloc (.cells Z 5)) 22 22 ty 5 (some ⟨w.heap.size, 0, none⟩) (some x) n n n cap Try.underlying22 hsz (by subst h0; rfl)
    rw [this]; subst h0; rfl
  · let cs : List Value := (zs.take n).map (Value.int .u8)
    have hcl : cs.length = n := by simp [cs]; omega
    have hcs : ∀ j v, cs[j]? = some v → (w.alloc (.cells Z 5)).cell? (x.add j) = some v := by
      intro j v hj
      have hjn : j < n := by
        have := (List.getElem?_eq_some_iff.1 hj).1; omega
      have h1 := hc j (by omega)
      have hbx : (x.add j).block < w.heap.size := World.block_lt_of_cell? w _ h1
      rw [hb.cell hbx, h1]
      simp only [cs, List.getElem?_map, List.getElem?_take, hjn, if_true, List.getElem?_eq_getElem (show j < zs.length by omega), Option.map_some, Option.some.injEq] at hj
      rw [← hj]
      simp [List.getD, List.getElem?_eq_getElem (show j < zs.length by omega)]
    have hrun := fun ty => run_copy_row (P := Try.prog) (w.alloc (.cells Z 5)) 22 22 ty 5 w.heap.size 0 n n x n cap Z 5 cs Try.underlying22 hsz hg (by rw [hcl]; simp) hcs (by omega) (by intro v hv; obtain ⟨m, _, rfl⟩ := List.mem_map.1 hv; rfl)
    refine ⟨Z, _, hmk w, fun ty => (hrun ty).trans (by rw [hcl]; rfl), below_setRow hb (Nat.le_refl _) _, by simp, fun i hi => ?_⟩
    have hh := setRow_heap (w.alloc (.cells Z 5)) w.heap.size Z (Z.toList.take 0 ++ cs ++ Z.toList.drop (0 + n)).toArray 5 (0, 0) hg
    rw [cell_of_row _ _ i _ 5 (0, 0) hh]
    have hd : Z.toList.drop (0 + n) = [] := List.drop_eq_nil_of_le (by simp; omega)
    rw [hd]
    simp [cs, hi, List.getD, List.getElem?_eq_getElem (show i < zs.length by omega)]
end Go.Proofs.Qxb6617347a
