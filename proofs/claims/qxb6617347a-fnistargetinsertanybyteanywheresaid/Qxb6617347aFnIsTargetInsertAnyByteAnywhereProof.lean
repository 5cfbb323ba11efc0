/-
  A PROOF OF 'Rows.FnIsTargetInsertAnyByteAnywhereSaid' ('example.com/exposure/exposure/zzlaws_http1_b1.FnIsTargetInsertAnyByteAnywhere'): the guide's shell, its walk filled.
-/
import Derived.Test.Qxb6617347aRows
import Derived.WalkKit
import Derived.ProofKit
import Derived.OpenShut
import Derived.ShutString
import Derived.ChangeOld
import Derived.Below
import Derived.Test.Qxb6617347aMade
namespace Go.Proofs.Qxb6617347a.fnIsTargetInsertAnyByteAnywhere
open Go.ChangeShapes Go.WideShapes Go.ChangeAt Go.RowKit
open Go.ChangeMaps (open_string shut_string)
open Pl
set_option linter.unusedVariables false

theorem own : ownKnob Try.prog.godebug = none := by kernel_rfl
theorem laidOut : laidOutB Try.prog = true := by kernel_rfl

/-- WHAT THE WALK IS TOLD OF A SLICE OF INTEGERS THAT CAME IN: it is nil; or it leads to a row of 'cap' cells, the numbers 'zs' (the first 'len' are its elements, the rest its spare room), each fitting its kind. -/
def IsRow (k : IntKind) (w : World) (a : Option Addr) (len cap : Nat) (zs : List Int) : Prop :=
  (a = none ∧ len = 0 ∧ cap = 0 ∧ zs = []) ∨
  ∃ x, a = some x ∧ len ≤ cap ∧ cap ≤ maxLen ∧ zs.length = cap ∧ (∀ i, i < zs.length → w.cell? (x.add i) = some (.int k (zs.getD i 0))) ∧ ∀ n ∈ zs, (Lit.int k n).wf = true

/-! ### STEP 1: THE WALK: the Go text returns true, AND WRITES NOTHING THAT WAS THERE: 'Below w.heap.size w w'' (Derived/Below.lean: '.refl', '.alloc', '.drew', '.setCell' at a new block, '.trans'). Open each 'IsRow' by 'rcases' AHEAD of 'go_enter'; part every test ahead of the walk. -/
set_option maxHeartbeats 2000000 in
theorem walk (a0 : Option Addr) (len0 cap0 : Nat) (z0 : List Int) (a1 : Int) (a2 : Int) (w : World) (w0 : IsRow .u8 w a0 len0 cap0 z0) (w1 : (Lit.int .i64 a1).wf = true) (w2 : (Lit.int .u8 a2).wf = true) :
    Calls Try.prog 5 #[.slice a0 len0 cap0, .int .i64 a1, .int .u8 a2] w fun e w' => e = .returned (.bool true) ∧ Below w.heap.size w w' := by
  have hc := bounds_u8 w2
  rcases w0 with ⟨rfl, rfl, rfl, rfl⟩ | ⟨x, rfl, hlc, hcm, hzl, hcell, hwf⟩
  · have hnil := fun wx => run_neq_slice_nil_any (P := Try.prog) wx 22 5 none 0 0 0 0 Try.underlying22
    by_cases hi : a1 = 0
    · subst hi
      obtain ⟨wg, hmk2, hown, hbel2, hsz2⟩ := made_own w 0 (by omega)
      have hgk := hown.out.1 0 (by omega)
      have hfk := hown.out.2 0 (by omega)
      have hmk3 : (Instr.makeSlice 22 (.int .i64 1) (.int .i64 1)).run Try.prog w = .ok (.slice (some ⟨w.heap.size, 0, none⟩) 1 1) wg := hmk2
      have hr1 : RowB (wg.setCell ⟨w.heap.size, 0, none⟩ (.int .u8 a2)) (some ⟨w.heap.size, 0, none⟩) 1 (fun _ => a2) := by
        refine ⟨.inr ⟨_, 0, rfl, fun t ht => ?_⟩, fun _ => hc, by decide⟩
        obtain rfl : t = 0 := by omega
        exact World.cell?_setCell_same _ _ _ hgk
      have hr2 : ∀ wx : World, RowB wx none 0 (fun _ => 0) := fun wx => ⟨.inl rfl, fun _ => by simp, by decide⟩
      have hr3 : RowB ((wg.setCell ⟨w.heap.size, 0, none⟩ (.int .u8 a2)).alloc (.cells #[.int .u8 a2] 5)) (some ⟨wg.heap.size, 0, none⟩) 1 (fun _ => a2) := by
        have := rowB_one a2 hc.1 hc.2 (wg.setCell ⟨w.heap.size, 0, none⟩ (.int .u8 a2))
        simpa using this
      have hbel3 : Hid (Below w.heap.size w (wg.setCell ⟨w.heap.size, 0, none⟩ (.int .u8 a2))) := hbel2.out.setCell (Nat.le_refl _) _
      have hone := allV_one a2
      have hrest : allV (fun _ => 0) 0 = true := rfl
      clear hmk2 hown hbel2
      rcases (show a2 < 33 ∨ (33 ≤ a2 ∧ a2 ≤ 126) ∨ 126 < a2 by omega) with hv | ⟨hv, hv2⟩ | hv
      all_goals
        first
          | (have hvis : visB a2 = true := decide_eq_true ⟨hv, hv2⟩; rw [hvis] at hone)
          | (have hvis : visB a2 = false := decide_eq_false (by omega); rw [hvis] at hone)
      all_goals
        clear hvis
        go_enter Try.func5, Try.ntmps5
        go_wp2_with (first
          | (go_at_call 12; refine (bytes12_any _ _ _ _ _ _ (by decide)).mono ?_; rintro e w' ⟨rfl, hw'⟩; have hw'' := hw'.symm; subst hw''))
        refine wp_loop_rounds 1 ?_
        rw [rounds_succ]
        go_wp2
        refine wp_loop_rounds 1 ?_
        rw [rounds_succ]
        go_wp2_with (go_at_call 13; refine (zzB (by first | assumption | exact hr2 _)).mono ?_; rintro e w' ⟨rfl, rfl⟩)
        go_ret
        exact ⟨ret_bool (by first | rfl | (simp; omega)), hbel3.out.alloc (by have := hbel3.out.size; omega) _⟩
    · rcases (show a1 < 0 ∨ 0 < a1 by omega) with hi' | hi'
      · go_enter Try.func5, Try.ntmps5
        go_wp2_with (go_at_call 12; refine (bytes12_any _ _ _ _ _ _ (by decide)).mono ?_; rintro e w' ⟨rfl, rfl⟩)
        go_ret
        exact ⟨rfl, Below.refl _ _⟩
      · have hi3 : ¬ a1 < 0 := by omega
        go_enter Try.func5, Try.ntmps5
        go_wp2_with (go_at_call 12; refine (bytes12_any _ _ _ _ _ _ (by decide)).mono ?_; rintro e w' ⟨rfl, rfl⟩)
        go_ret
        exact ⟨rfl, Below.refl _ _⟩
  · have hml : len0 ≤ maxLen := by omega
    have hml' := hml
    unfold maxLen at hml'
    by_cases hbig : len0 ≤ 1048576
    · have hb : decide (len0 ≤ 1048576) = true := decide_eq_true hbig
      by_cases hi : 0 ≤ a1 ∧ a1 ≤ len0
      · obtain ⟨hi0, hi1⟩ := hi
        obtain ⟨i, rfl⟩ : ∃ i : Nat, a1 = i := ⟨a1.toNat, by omega⟩
        have hi2 : i ≤ len0 := by omega
        obtain ⟨Z, wb, hmk, hcp, hbel, hsz, hc2⟩ := copied w x len0 cap0 z0 hbig (by omega) hcell
        obtain ⟨wg, hmk2, hown, hbel2, hsz2⟩ := made_own wb len0 hbig
        have hnil := fun wx => run_neq_slice_nil_any (P := Try.prog) wx 22 5 (some x) len0 cap0 0 0 Try.underlying22
        have hz : ∀ i, 0 ≤ z0.getD i 0 ∧ z0.getD i 0 ≤ 255 := fun i => by simpa using range_u8 hwf i
        obtain ⟨z, hzd⟩ : ∃ z : Nat → Int, z = fun i => z0.getD i 0 := ⟨_, rfl⟩
        have hz' : Hid (∀ i, 0 ≤ z i ∧ z i ≤ 255) := by rw [hzd]; exact hz
        have hc3 : Hid (∀ i, i < len0 → wg.cell? ⟨w.heap.size, i, none⟩ = some (.int .u8 (z i))) := by
          rw [hzd]; exact fun i hi => (hbel2.out.cell hsz).trans (hc2.out i hi)
        have hbel3 : Hid (Below w.heap.size w wg) := hbel.out.trans (hbel2.out.mono (by omega))
        clear hc2 hz hzd hcell hwf hzl hcm hlc hbel hbel2
        go_enter Try.func5, Try.ntmps5
        go_wp2_with (first
          | (go_at_call 12; refine (bytes12_any _ _ _ _ _ _ hml).mono ?_; rintro e w' ⟨rfl, hw'⟩; have hw'' := hw'.symm; subst hw''))
        clear hmk hcp hmk2 hnil hb
        have hgg : w.heap.size ≠ wb.heap.size := by omega
        go_loopw [9] (fun j wr => ∃ (k : Nat) (G : Nat → Int), k ≤ i ∧ j = .int .i64 k ∧ wg.heap.size ≤ wr.heap.size ∧ Hid (∀ t, t < len0 → wr.cell? ⟨w.heap.size, t, none⟩ = some (.int .u8 (z t))) ∧ Hid (Own wr wb.heap.size (len0 + 1) G) ∧
            Hid (∀ t, 0 ≤ G t ∧ G t ≤ 255) ∧ Hid (∀ t, t < k → G t = z t) ∧ Hid (Below w.heap.size w wr)) (fun j _ => i - (intOf j).toNat)
        case atStart => exact ⟨0, fun _ => 0, Nat.zero_le _, rfl, Nat.le_refl _, hc3.out, hown.out, fun _ => by simp, fun t ht => by omega, hbel3.out⟩
        case round =>
          obtain ⟨k, G, hk, rfl, hsr, hct, how, hGb, hG, hbl⟩ := hrel
          clear hc3 hown hbel3
          by_cases hlt : k < i
          · have hck := hct.out k (by omega)
            have hgk := how.out.1 k (by omega)
            have hfk := how.out.2 k (by omega)
            go_wp2
            go_roundw
            case rel =>
              refine ⟨k + 1, fun t => if t = k then z k else G t, by omega, by go_num, by simpa using hsr, cells_other hct.out (by simpa using hgg) _, how.out.set k (z k), fun t => ?_, fun t ht => ?_, hbl.out.setCell (by show w.heap.size ≤ wb.heap.size; omega) _⟩
              · show 0 ≤ (if t = k then z k else G t) ∧ (if t = k then z k else G t) ≤ 255
                split
                · exact hz'.out k
                · exact hGb.out t
              · show (if t = k then z k else G t) = z t
                split
                · rename_i e; rw [e]
                · exact hG.out t (by omega)
            case measure => simp [intOf]; omega
          · have hki : k = i := by omega
            have HK : Hid (k = i) := hki
            clear hki
            have hgk := how.out.1 i (by omega)
            have hfk := how.out.2 i (by omega)
            go_wp2
            clear hgk hfk
            go_loopw [10] (fun j wr => ∃ (k : Nat) (G : Nat → Int), i ≤ k ∧ k ≤ len0 ∧ j = .int .i64 k ∧ Hid (∀ t, t < len0 → wr.cell? ⟨w.heap.size, t, none⟩ = some (.int .u8 (z t))) ∧ Hid (Own wr wb.heap.size (len0 + 1) G) ∧
                Hid (∀ t, 0 ≤ G t ∧ G t ≤ 255) ∧ Hid (∀ t, t < i → G t = z t) ∧ Hid (G i = a2) ∧ Hid (∀ t, i ≤ t → t < k → G (t + 1) = z t) ∧ Hid (Below w.heap.size w wr)) (fun j _ => len0 - (intOf j).toNat)
            case atStart =>
              refine ⟨i, fun t => if t = i then a2 else G t, Nat.le_refl _, hi2, rfl, cells_other hct.out (by simpa using hgg) _, how.out.set i a2, fun t => ?_, fun t ht => ?_, if_pos rfl, fun t h1 h2 => by omega, hbl.out.setCell (by show w.heap.size ≤ wb.heap.size; omega) _⟩
              · show 0 ≤ (if t = i then a2 else G t) ∧ (if t = i then a2 else G t) ≤ 255
                split
                · exact hc
                · exact hGb.out t
              · show (if t = i then a2 else G t) = z t
                rw [if_neg (by omega)]; exact hG.out t (by have := HK.out; omega)
            case round =>
              obtain ⟨k2, G2, hk1, hk2, rfl, hct2, how2, hGb2, hG2, hGi, hG3, hbl2⟩ := hrel
              clear hct how hGb hG hbl HK
              by_cases hlt2 : k2 < len0
              · have hck := hct2.out k2 hlt2
                have hgk := how2.out.1 (k2 + 1) (by omega)
                have hfk := how2.out.2 (k2 + 1) (by omega)
                go_wp2
                go_roundw
                case rel =>
                  refine ⟨k2 + 1, fun t => if t = k2 + 1 then z k2 else G2 t, by omega, by omega, by go_num, cells_other hct2.out (by simpa using hgg) _, how2.out.set (k2 + 1) (z k2), fun t => ?_, fun t ht => ?_, ?_, fun t h1 h2 => ?_, hbl2.out.setCell (by show w.heap.size ≤ wb.heap.size; omega) _⟩
                  · show 0 ≤ (if t = k2 + 1 then z k2 else G2 t) ∧ (if t = k2 + 1 then z k2 else G2 t) ≤ 255
                    split
                    · exact hz'.out k2
                    · exact hGb2.out t
                  · show (if t = k2 + 1 then z k2 else G2 t) = z t
                    rw [if_neg (by omega)]; exact hG2.out t ht
                  · show (if i = k2 + 1 then z k2 else G2 i) = a2
                    rw [if_neg (by omega)]; exact hGi.out
                  · show (if t + 1 = k2 + 1 then z k2 else G2 (t + 1)) = z t
                    split
                    · rename_i e; obtain rfl : t = k2 := by omega
                      rfl
                    · exact hG3.out t h1 (by omega)
                case measure => simp [intOf]; omega
              · have hlaw := allV_insert z G2 len0 i a2 hi2 hG2.out hGi.out (fun t h1 h2 => hG3.out t h1 (by omega))
                have hr1 : RowB wr (some ⟨wb.heap.size, 0, none⟩) (len0 + 1) G2 := ⟨how2.out.row, hGb2.out, by unfold maxLen; omega⟩
                have hr2 : RowB wr (some ⟨w.heap.size, 0, none⟩) len0 z := ⟨.inr ⟨_, 0, rfl, fun t ht => by simpa using hct2.out t ht⟩, hz'.out, hml⟩
                have hr3 := rowB_one a2 hc.1 hc.2
                have hone := allV_one a2
                clear hct2 how2 hGb2 hG2 hGi hG3 hz'
                cases hrest : allV z len0
                all_goals
                  rw [hrest] at hlaw
                  rcases (show a2 < 33 ∨ (33 ≤ a2 ∧ a2 ≤ 126) ∨ 126 < a2 by omega) with hv | ⟨hv, hv2⟩ | hv
                all_goals
                  first
                    | (have hvis : visB a2 = true := decide_eq_true ⟨hv, hv2⟩; rw [hvis] at hlaw hone)
                    | (have hvis : visB a2 = false := decide_eq_false (by omega); rw [hvis] at hlaw hone)
                all_goals
                  clear hvis
                  simp only [Bool.and_true, Bool.and_false] at hlaw
                  go_wp2_with (go_at_call 13; refine (zzB (by first | assumption | exact hr3 _)).mono ?_; rintro e w' ⟨rfl, rfl⟩)
                  go_ret
                  exact ⟨ret_bool (by first | rfl | (simp; omega)), hbl2.out.alloc (by have := hbl2.out.size; omega) _⟩
      · have hi' : a1 < 0 ∨ (len0 : Int) < a1 := by omega
        rcases hi' with hi' | hi'
        · go_enter Try.func5, Try.ntmps5
          go_wp2_with (go_at_call 12; refine (bytes12_any _ _ _ _ _ _ hml).mono ?_; rintro e w' ⟨rfl, rfl⟩)
          go_ret
          exact ⟨rfl, Below.refl _ _⟩
        · have hi3 : ¬ a1 < 0 := by omega
          go_enter Try.func5, Try.ntmps5
          go_wp2_with (go_at_call 12; refine (bytes12_any _ _ _ _ _ _ hml).mono ?_; rintro e w' ⟨rfl, rfl⟩)
          go_ret
          exact ⟨rfl, Below.refl _ _⟩
    · have hb : decide (len0 ≤ 1048576) = false := decide_eq_false hbig
      go_enter Try.func5, Try.ntmps5
      go_wp2_with (go_at_call 12; refine (bytes12_any _ _ _ _ _ _ hml).mono ?_; rintro e w' ⟨rfl, rfl⟩)
      go_ret
      exact ⟨rfl, Below.refl _ _⟩

/-! ### THE ROW's STEP: WRITTEN OUT: LEAVE IT -/
set_option maxRecDepth 100000 in
theorem lifted (os : Os) (started : os.Started) (H : Type) (enc : TypeId × Value → H) :
    ReturnsInHanded {} Try.checked os 5 .any (Rows.fnIsTargetInsertAnyByteAnywhereSpec.pre6 enc Try.prog Try.f5 Rows.fnIsTargetInsertAnyByteAnywhereRow.domain false) (Rows.fnIsTargetInsertAnyByteAnywhereSpec.post enc Try.prog Try.f5 false true false false) := by
  refine returnsInHanded_of_change (C := Try.checked) own started (by kernel_rfl) Try.func5
    (ChangeSpec.witness6 (enc := enc) (C := Try.checked) false ⟨#[], #[.slice none 0 0, .int .i64 0, .int .u8 0], []⟩ 8 (by kernel_rfl) (by kernel_rfl) (by kernel_rfl) (by kernel_rfl)) ?_
  intro W base args ds gs before hval0 hW hcnd _
  have hval : ∀ (j : Nat) t v, Try.f5.params[j]? = some t → args[j]? = some v → Value.okWide Try.prog W .any base t v := hval0
  have hW' := hW
  obtain ⟨p, q, hA0, hV, rfl, hfz, hnd⟩ := hW
  have hA : DataW.TrodAll enc Try.prog W 0 (fun _ => true) true Try.f5.params.toList args.toList ds p := hA0
  rw [Try.params5] at hA hval
  obtain ⟨v0, vs0, d0, ds0, p0, q0, hargs, rfl, rfl, h0, r0⟩ := trodAll_cons hA
  obtain ⟨v1, vs1, d1, ds1, p1, q1, rfl, rfl, rfl, h1, r1⟩ := trodAll_cons r0
  obtain ⟨v2, vs2, d2, ds2, p2, q2, rfl, rfl, rfl, h2, r2⟩ := trodAll_cons r1
  obtain ⟨rfl, rfl, rfl⟩ := trodAll_nil r2
  obtain rfl : args = #[v0, v1, v2] := by cases args; simp_all
  obtain ⟨rfl, rfl⟩ := trodVars_none hV
  obtain ⟨a0, len0, cap0, rfl⟩ := okWide_slice Try.underlying22 (hval 0 22 v0 rfl rfl)
  have k0 := h0
  have lt0 : ∀ x ∈ p0, x.block < W.heap.size := by obtain ⟨m, hm⟩ := k0; exact DataW.trod_lt m _ _ _ hm
  obtain ⟨z0, w0⟩ : ∃ zs, IsRow .u8 W a0 len0 cap0 zs := by
    obtain ⟨fuel, hf⟩ := h0
    rcases open_ints Try.underlying22 Try.underlying5 (by kernel_rfl) hf with ⟨hcs, _⟩ | ⟨x, l, c, zs, hcs, _, hl, hm, hz, _, hcell, hwz⟩
    · simp [Value.cells] at hcs
      obtain ⟨rfl, rfl, rfl⟩ := hcs
      exact ⟨[], .inl ⟨rfl, rfl, rfl, rfl⟩⟩
    · simp [Value.cells] at hcs
      obtain ⟨rfl, rfl, rfl⟩ := hcs
      exact ⟨zs, .inr ⟨_, rfl, hl, hm, by simpa using hz, hcell, hwz⟩⟩
  obtain ⟨a1, rfl, rfl, rfl, w1⟩ := open_int Try.underlying3 (hval 1 3 v1 rfl rfl) h1
  obtain ⟨a2, rfl, rfl, rfl, w2⟩ := open_int Try.underlying5 (hval 2 5 v2 rfl rfl) h2
  clear hA0 hval0
  refine (walk a0 len0 cap0 z0 a1 a2 W w0 w1 w2).mono fun e W' ⟨he, bel⟩ => ?_
  subst he
  exact ⟨_, rfl, _, _, _, [], _, [], hW', trodAll_mk1 (shut_bool Try.underlying4 _), (trodAll_cons_mk (Below.trod laidOut (by kernel_rfl) (of_decide_eq_true (by kernel_rfl)) k0 bel lt0) (trodAll_cons_mk (shut_int Try.underlying3 w1) (trodAll_cons_mk (shut_int Try.underlying5 w2) trodAll_mk0))), rfl, bel.frame _, fun h => by cases h⟩

theorem over : Rows.fnIsTargetInsertAnyByteAnywhereRow.holds Try.pinned (OpenSpec.ofChange Rows.fnIsTargetInsertAnyByteAnywhereSpec) :=
  OpenClaim.holds_of_wide 5 Try.f5 rfl rfl rfl rfl rfl rfl rfl ⟨rfl, rfl, rfl, rfl, rfl⟩ rfl rfl rfl rfl rfl (by kernel_rfl) Try.func5 (by kernel_rfl)
    (of_decide_eq_true (by kernel_rfl)) (by unfold Func.isWrapper; first | (rw [if_pos (by decide +kernel)]; kernel_rfl) | (rw [if_neg (by decide +kernel)]; exact ⟨rfl, rfl⟩))
    (fun os started H enc _ => lifted os started H enc)

/-- ████ THE STATEMENT ████ -/
theorem proved : Rows.FnIsTargetInsertAnyByteAnywhereSaid := over
end Go.Proofs.Qxb6617347a.fnIsTargetInsertAnyByteAnywhere
