/-
  A PROOF OF 'Rows.FnEqualFoldMatchesPreimageOfEachLetterSaid' ('example.com/exposure/exposure/zzlaws_http1_b1.FnEqualFoldMatchesPreimageOfEachLetter'): the guide's shell, its walk filled.
-/
import Derived.Test.Qxb6617347aRows
import Derived.WalkKit
import Derived.ProofKit
import Derived.OpenShut
import Derived.ShutString
import Derived.ChangeOld
import Derived.Below
import Derived.Test.Qxb6617347aCopied
import Derived.Test.Qxb6617347aFold
import Derived.Deep.QuietTactic
import Derived.BigQuiet
namespace Go.Proofs.Qxb6617347a.fnEqualFoldMatchesPreimageOfEachLetter
open Go.ChangeShapes Go.WideShapes Go.ChangeAt Go.RowKit
open Go.ChangeMaps (open_string shut_string)
open Pl
set_option linter.unusedVariables false

theorem own : ownKnob Try.prog.godebug = none := by kernel_rfl
theorem laidOut : laidOutB Try.prog = true := by kernel_rfl

/-- WHAT THE WALK IS TOLD OF A SLICE OF INTEGERS THAT CAME IN: it is nil; or it leads to a row of 'cap' cells, the numbers 'zs' (the first 'len' are its elements, the rest its spare room), each fitting its kind. -/
def IsRow (k : IntKind) (w : World) (a : Option Addr) (len cap : Nat) (zs : List Int) : Prop :=
  (a = none ∧ len = 0 ∧ cap = 0 ∧ zs = []) ∨
  ∃ x, a = some x ∧ len ≤ cap ∧ cap ≤ maxLen ∧ zs.length = cap ∧ (∀ i, i < zs.length → w.cell? (x.add i) = some (.int k (zs.getD i 0))) ∧ ∀ n ∈ zs, (Lit.int k n).wf = true

/-! ### STEP 1: THE WALK: the Go text returns true, AND WRITES NOTHING THAT WAS THERE: 'Below w.heap.size w w'' (Derived/Below.lean: '.refl', '.alloc', '.drew', '.setCell' at a new block, '.trans'). Open each 'IsRow' by 'rcases' AHEAD of 'go_enter'; part every test ahead of the walk. -/
set_option maxHeartbeats 2000000 in
theorem walk (a0 : Option Addr) (len0 cap0 : Nat) (z0 : List Int) (a1 : ByteArray) (w : World) (w0 : IsRow .u8 w a0 len0 cap0 z0) (w1 : a1.size ≤ maxLen) :
    Calls Try.prog 6 #[.slice a0 len0 cap0, .string a1] w fun e w' => e = .returned (.bool true) ∧ Below w.heap.size w w' := by
  have hs1 := w1
  unfold maxLen at hs1
  rcases w0 with ⟨rfl, rfl, rfl, rfl⟩ | ⟨x, rfl, hlc, hcm, hzl, hcell, hwf⟩
  · have hnil := fun wx => run_neq_slice_nil_any (P := Try.prog) wx 22 5 none 0 0 0 0 Try.underlying22
    have hz : Hid (∀ i : Nat, (0 : Int) ≤ (fun _ : Nat => (0 : Int)) i ∧ (fun _ : Nat => (0 : Int)) i ≤ 255) := fun _ => by simp
    by_cases hbig : 0 + a1.size ≤ 1048576
    · have hb : decide (0 + a1.size ≤ 1048576) = true := decide_eq_true hbig
      have hb' : decide (a1.size ≤ 1048576) = true := decide_eq_true (by omega)
      by_cases hh : a1.size ≤ 524288
      · by_cases hlen : a1.size = 0
        · have hE : eqF (fun _ => 0) (bt a1) 0 a1.size = true := by simp [eqF, allF, hlen]
          go_enter Try.func6, Try.ntmps6
          go_wp2_with (first
            | (go_at_call 14; refine (bytes14_any _ _ _ _ _ (by decide) w1).mono ?_; rintro e w' ⟨rfl, rfl⟩)
            | (go_at_call 15; refine (fold_any _ _ _ (fun _ => 0) _ _ (by decide) hz.out (.inl rfl)).mono ?_; rintro e w' ⟨rfl, rfl⟩))
          refine wp_loop_rounds 1 ?_
          rw [rounds_succ]
          go_wp2
          go_ret
          exact ⟨rfl, Below.refl _ _⟩
        · have hE : eqF (fun _ => 0) (bt a1) 0 a1.size = false := by simp [eqF]; omega
          have hq : ((0 : Int) == (a1.size : Int)) = false := by simp; omega
          go_enter Try.func6, Try.ntmps6
          go_wp2_with (first
            | (go_at_call 14; refine (bytes14_any _ _ _ _ _ (by decide) w1).mono ?_; rintro e w' ⟨rfl, rfl⟩)
            | (go_at_call 15; refine (fold_any _ _ _ (fun _ => 0) _ _ (by decide) hz.out (.inl rfl)).mono ?_; rintro e w' ⟨rfl, rfl⟩))
          refine wp_loop_rounds 1 ?_
          rw [rounds_succ]
          go_wp2
          go_ret
          exact ⟨rfl, Below.refl _ _⟩
      · go_enter Try.func6, Try.ntmps6
        go_wp2_with (go_at_call 14; refine (bytes14_any _ _ _ _ _ (by decide) w1).mono ?_; rintro e w' ⟨rfl, rfl⟩)
        go_ret
        exact ⟨rfl, Below.refl _ _⟩
    · have hb : decide (0 + a1.size ≤ 1048576) = false := decide_eq_false hbig
      have hb' : decide (a1.size ≤ 1048576) = false := decide_eq_false (by omega)
      go_enter Try.func6, Try.ntmps6
      go_wp2_with (go_at_call 14; refine (bytes14_any _ _ _ _ _ (by decide) w1).mono ?_; rintro e w' ⟨rfl, rfl⟩)
      go_ret
      exact ⟨rfl, Below.refl _ _⟩
  · have hml : len0 ≤ maxLen := by omega
    have hml' := hml
    unfold maxLen at hml'
    by_cases hbig : len0 + a1.size ≤ 1048576
    · have hb : decide (len0 + a1.size ≤ 1048576) = true := decide_eq_true hbig
      by_cases hh : len0 ≤ 524288 ∧ a1.size ≤ 524288
      · obtain ⟨hh1, hh2⟩ := hh
        obtain ⟨Z, wb, hmk, hcp, hbel, hsz, hc2⟩ := copied w x len0 cap0 z0 (by omega) (by omega) hcell
        have hnil := fun wx => run_neq_slice_nil_any (P := Try.prog) wx 22 5 (some x) len0 cap0 0 0 Try.underlying22
        have hz : ∀ i, 0 ≤ z0.getD i 0 ∧ z0.getD i 0 ≤ 255 := fun i => by simpa using range_u8 hwf i
        obtain ⟨z, hzd⟩ : ∃ z : Nat → Int, z = fun i => z0.getD i 0 := ⟨_, rfl⟩
        have hz' : Hid (∀ i, 0 ≤ z i ∧ z i ≤ 255) := by rw [hzd]; exact hz
        have hrow : Hid (Row wb (some ⟨w.heap.size, 0, none⟩) len0 z) := .inr ⟨_, _, rfl, fun i hi => by rw [hzd]; simpa using hc2.out i hi⟩
        have hc3 : Hid (∀ i, i < len0 → wb.cell? ⟨w.heap.size, i, none⟩ = some (.int .u8 (z i))) := by rw [hzd]; exact hc2.out
        clear hc2 hz hzd hcell hwf hzl hcm hlc
        by_cases hlen : len0 = a1.size
        · have hE : eqF z (bt a1) len0 a1.size = allF z (bt a1) len0 := by simp [eqF, hlen]
          have HL : Hid (len0 = a1.size) := hlen
          have hq : ((len0 : Int) == (a1.size : Int)) = true := by simp [hlen]
          clear hlen
          go_enter Try.func6, Try.ntmps6
          go_wp2_with (first
            | (go_at_call 14; refine (bytes14_any _ _ _ _ _ hml w1).mono ?_; rintro e w' ⟨rfl, hw'⟩; have hw'' := hw'.symm; subst hw'')
            | (go_at_call 15; refine (fold_any _ _ _ z _ _ hml hz'.out hrow.out).mono ?_; rintro e w' ⟨rfl, hw'⟩; have hw'' := hw'.symm; subst hw''))
          clear hmk hcp hnil hb hrow
          go_loopw [7, 8] (fun v j wr => ∃ (k : Nat) (b : Bool), k ≤ len0 ∧ j = .int .i64 k ∧ v = .bool b ∧ Hid (b = allF z (bt a1) k) ∧ Hid (∀ t, t < len0 → wr.cell? ⟨w.heap.size, t, none⟩ = some (.int .u8 (z t))) ∧ Hid (Below w.heap.size w wr))
            (fun _ j _ => len0 - (intOf j).toNat)
          case atStart => exact ⟨0, true, Nat.zero_le _, rfl, rfl, rfl, hc3.out, hbel.out⟩
          case round =>
            obtain ⟨k, b, hk, rfl, rfl, hv, hct, hbl⟩ := hrel
            clear hc3 hbel
            cases b
            · have hF : allF z (bt a1) len0 = false := allF_less z (bt a1) len0 k hk hv.out.symm
              go_wp2
              go_ret
              exact ⟨rfl, hbl.out⟩
            · by_cases hlt : k < len0
              · have hlt2 : k < a1.size := by have := HL.out; omega
                have hck := hct.out k hlt
                have hzk := hz'.out k
                have hsk := bt_get a1 k hlt2
                have hbk := bt_bd a1 k
                have hki : (k : Int) < (len0 : Int) := by omega
                have hki2 : (k : Int) < (a1.size : Int) := by omega
                go_wp2
                go_quiet ((go_at_call 16; exact Calls.quiet_of_same (admits_any _ _ _ hbk hzk)))
                go_wp2
                go_roundw
                case rel => exact ⟨k + 1, _, by omega, by go_num, rfl, allF_step z (bt a1) k hv.out, fun t ht => by simpa using hct.out t ht, hbl.out.trans ⟨rfl, rfl, rfl, Nat.le_refl _, fun _ _ => rfl⟩⟩
                case measure => simp [intOf]; omega
              · have hkn : k = len0 := by omega
                have hF : allF z (bt a1) len0 = true := by rw [← hkn]; exact hv.out.symm
                clear hkn
                go_wp2
                go_ret
                exact ⟨rfl, hbl.out⟩
        · have hE : eqF z (bt a1) len0 a1.size = false := by simp [eqF, hlen]
          have hq : ((len0 : Int) == (a1.size : Int)) = false := by simp; omega
          clear hlen
          go_enter Try.func6, Try.ntmps6
          go_wp2_with (first
            | (go_at_call 14; refine (bytes14_any _ _ _ _ _ hml w1).mono ?_; rintro e w' ⟨rfl, hw'⟩; have hw'' := hw'.symm; subst hw'')
            | (go_at_call 15; refine (fold_any _ _ _ z _ _ hml hz'.out hrow.out).mono ?_; rintro e w' ⟨rfl, hw'⟩; have hw'' := hw'.symm; subst hw''))
          refine wp_loop_rounds 1 ?_
          rw [rounds_succ]
          go_wp2
          go_ret
          exact ⟨rfl, hbel.out⟩
      · rcases (show 524288 < len0 ∨ (len0 ≤ 524288 ∧ 524288 < a1.size) by omega) with hg | ⟨hg, hg2⟩
        all_goals
          go_enter Try.func6, Try.ntmps6
          go_wp2_with (go_at_call 14; refine (bytes14_any _ _ _ _ _ hml w1).mono ?_; rintro e w' ⟨rfl, rfl⟩)
          go_ret
          exact ⟨rfl, Below.refl _ _⟩
    · have hb : decide (len0 + a1.size ≤ 1048576) = false := decide_eq_false hbig
      go_enter Try.func6, Try.ntmps6
      go_wp2_with (go_at_call 14; refine (bytes14_any _ _ _ _ _ hml w1).mono ?_; rintro e w' ⟨rfl, rfl⟩)
      go_ret
      exact ⟨rfl, Below.refl _ _⟩

/-! ### THE ROW's STEP: WRITTEN OUT: LEAVE IT -/
set_option maxRecDepth 100000 in
theorem lifted (os : Os) (started : os.Started) (H : Type) (enc : TypeId × Value → H) :
    ReturnsInHanded {} Try.checked os 6 .any (Rows.fnEqualFoldMatchesPreimageOfEachLetterSpec.pre6 enc Try.prog Try.f6 Rows.fnEqualFoldMatchesPreimageOfEachLetterRow.domain false) (Rows.fnEqualFoldMatchesPreimageOfEachLetterSpec.post enc Try.prog Try.f6 false true false false) := by
  refine returnsInHanded_of_change (C := Try.checked) own started (by kernel_rfl) Try.func6
    (ChangeSpec.witness6 (enc := enc) (C := Try.checked) false ⟨#[], #[.slice none 0 0, .string ByteArray.empty], []⟩ 8 (by kernel_rfl) (by kernel_rfl) (by kernel_rfl) (by kernel_rfl)) ?_
  intro W base args ds gs before hval0 hW hcnd _
  have hval : ∀ (j : Nat) t v, Try.f6.params[j]? = some t → args[j]? = some v → Value.okWide Try.prog W .any base t v := hval0
  have hW' := hW
  obtain ⟨p, q, hA0, hV, rfl, hfz, hnd⟩ := hW
  have hA : DataW.TrodAll enc Try.prog W 0 (fun _ => true) true Try.f6.params.toList args.toList ds p := hA0
  rw [Try.params6] at hA hval
  obtain ⟨v0, vs0, d0, ds0, p0, q0, hargs, rfl, rfl, h0, r0⟩ := trodAll_cons hA
  obtain ⟨v1, vs1, d1, ds1, p1, q1, rfl, rfl, rfl, h1, r1⟩ := trodAll_cons r0
  obtain ⟨rfl, rfl, rfl⟩ := trodAll_nil r1
  obtain rfl : args = #[v0, v1] := by cases args; simp_all
  obtain ⟨rfl, rfl⟩ := trodVars_none hV
  obtain ⟨a0, len0, cap0, rfl⟩ := okWide_slice Try.underlying22 (hval 0 22 v0 rfl rfl)
  have k0 := h0
  have lt0 : ∀ x ∈ p0, x.block < W.heap.size := by obtain ⟨m, hm⟩ := k0; exact DataW.trod_lt m _ _ _ hm
  obtain ⟨z0, w0⟩ : ∃ zs, IsRow .u8 W a0 len0 cap0 zs := by
    obtain ⟨fuel, hf⟩ := h0
    rcases open_ints Try.underlying22 Try.underlying5 (by kernel_rfl) hf with ⟨hcs, _⟩ | ⟨x, l, c, zs, hcs, _, hl, hm, hz, _, hcell, hwz⟩
    · simp [Value.cells] at hcs
      obtain ⟨rfl, rfl, rfl⟩ := hcs
      exact ⟨[], .inl ⟨rfl, rfl, rfl, rfl⟩⟩
    · simp [Value.cells] at hcs
      obtain ⟨rfl, rfl, rfl⟩ := hcs
      exact ⟨zs, .inr ⟨_, rfl, hl, hm, by simpa using hz, hcell, hwz⟩⟩
  obtain ⟨a1, rfl, rfl, rfl, w1⟩ := open_string Try.underlying9 (hval 1 9 v1 rfl rfl) h1
  clear hA0 hval0
  refine (walk a0 len0 cap0 z0 a1 W w0 w1).mono fun e W' ⟨he, bel⟩ => ?_
  subst he
  exact ⟨_, rfl, _, _, _, [], _, [], hW', trodAll_mk1 (shut_bool Try.underlying4 _), (trodAll_cons_mk (Below.trod laidOut (by kernel_rfl) (of_decide_eq_true (by kernel_rfl)) k0 bel lt0) (trodAll_cons_mk (shut_string Try.underlying9 w1) trodAll_mk0)), rfl, bel.frame _, fun h => by cases h⟩

theorem over : Rows.fnEqualFoldMatchesPreimageOfEachLetterRow.holds Try.pinned (OpenSpec.ofChange Rows.fnEqualFoldMatchesPreimageOfEachLetterSpec) :=
  OpenClaim.holds_of_wide 6 Try.f6 rfl rfl rfl rfl rfl rfl rfl ⟨rfl, rfl, rfl, rfl, rfl⟩ rfl rfl rfl rfl rfl (by kernel_rfl) Try.func6 (by kernel_rfl)
    (of_decide_eq_true (by kernel_rfl)) (by unfold Func.isWrapper; first | (rw [if_pos (by decide +kernel)]; kernel_rfl) | (rw [if_neg (by decide +kernel)]; exact ⟨rfl, rfl⟩))
    (fun os started H enc _ => lifted os started H enc)

/-- ████ THE STATEMENT ████ -/
theorem proved : Rows.FnEqualFoldMatchesPreimageOfEachLetterSaid := over
end Go.Proofs.Qxb6617347a.fnEqualFoldMatchesPreimageOfEachLetter
