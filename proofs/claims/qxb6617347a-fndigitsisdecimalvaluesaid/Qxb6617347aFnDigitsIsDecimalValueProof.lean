/-
  A PROOF OF 'Rows.FnDigitsIsDecimalValueSaid' ('example.com/exposure/exposure/zzlaws_http1_b1.FnDigitsIsDecimalValue'): the guide's shell, its walk filled.
-/
import Derived.Test.Qxb6617347aRows
import Derived.WalkKit
import Derived.ProofKit
import Derived.OpenShut
import Derived.ShutString
import Derived.ChangeOld
import Derived.Below
import Derived.Test.Qxb6617347aCopied
import Derived.Test.Qxb6617347aPlainSum
namespace Go.Proofs.Qxb6617347a.fnDigitsIsDecimalValue
open Go.ChangeShapes Go.WideShapes Go.ChangeAt Go.RowKit
open Go.ChangeMaps (open_string shut_string)
open Pl
set_option linter.unusedVariables false

theorem own : ownKnob Try.prog.godebug = none := by kernel_rfl
theorem laidOut : laidOutB Try.prog = true := by kernel_rfl

/-- WHAT THE WALK IS TOLD OF A SLICE OF INTEGERS THAT CAME IN: it is nil; or it leads to a row of 'cap' cells, the numbers 'zs' (the first 'len' are its elements, the rest its spare room), each fitting its kind. -/
def IsRow (k : IntKind) (w : World) (a : Option Addr) (len cap : Nat) (zs : List Int) : Prop :=
  (a = none ∧ len = 0 ∧ cap = 0 ∧ zs = []) ∨
  ∃ x, a = some x ∧ len ≤ cap ∧ cap ≤ maxLen ∧ zs.length = cap ∧ (∀ i, i < zs.length → w.cell? (x.add i) = some (.int k (zs.getD i 0))) ∧ ∀ n ∈ zs, (Lit.int k n).wf = true

/-! ### STEP 1: THE WALK: the Go text returns true, AND WRITES NOTHING THAT WAS THERE: 'Below w.heap.size w w'' (Derived/Below.lean: '.refl', '.alloc', '.drew', '.setCell' at a new block, '.trans'). Open each 'IsRow' by 'rcases' AHEAD of 'go_enter'; part every test ahead of the walk. -/
set_option maxHeartbeats 1000000 in
theorem walk (a0 : Option Addr) (len0 cap0 : Nat) (z0 : List Int) (w : World) (w0 : IsRow .u8 w a0 len0 cap0 z0) :
    Calls Try.prog 3 #[.slice a0 len0 cap0] w fun e w' => e = .returned (.bool true) ∧ Below w.heap.size w w' := by
  rcases w0 with ⟨rfl, rfl, rfl, rfl⟩ | ⟨x, rfl, hlc, hcm, hzl, hcell, hwf⟩
  · have hnil := fun wx => run_neq_slice_nil_any (P := Try.prog) wx 22 5 none 0 0 0 0 Try.underlying22
    have hok := okD_len (fun _ => 0) 0 (by omega)
    have hnu := numD_no (fun _ => 0) 0 hok
    go_enter Try.func3, Try.ntmps3
    go_wp2_with (first
      | (go_at_call 7; refine (bytes7_any _ _ _ _ (by decide)).mono ?_; rintro e w' ⟨rfl, rfl⟩)
      | (go_at_call 8; refine (digits_any _ _ _ (fun _ => 0) _ (by decide) (by simp) (.inl rfl)).mono ?_; rintro e w' ⟨rfl, rfl⟩))
    go_ret
    exact ⟨rfl, Below.refl _ _⟩
  · have hml : len0 ≤ maxLen := by omega
    have hml' := hml
    unfold maxLen at hml'
    by_cases hbig : len0 ≤ 1048576
    · have hb : decide (len0 ≤ 1048576) = true := decide_eq_true hbig
      obtain ⟨Z, w2, hmk, hcp, hbel, hsz, hc2⟩ := copied w x len0 cap0 z0 hbig (by omega) hcell
      have hnil := fun wx => run_neq_slice_nil_any (P := Try.prog) wx 22 5 (some x) len0 cap0 0 0 Try.underlying22
      have hz : ∀ i, 0 ≤ z0.getD i 0 ∧ z0.getD i 0 ≤ 255 := fun i => by simpa using range_u8 hwf i
      obtain ⟨z, hzd⟩ : ∃ z : Nat → Int, z = fun i => z0.getD i 0 := ⟨_, rfl⟩
      have hz' : Hid (∀ i, 0 ≤ z i ∧ z i ≤ 255) := by rw [hzd]; exact hz
      have hrow : Hid (Row w2 (some ⟨w.heap.size, 0, none⟩) len0 z) := .inr ⟨_, _, rfl, fun i hi => by rw [hzd]; simpa using hc2.out i hi⟩
      have hc3 : Hid (∀ i, i < len0 → w2.cell? ⟨w.heap.size, i, none⟩ = some (.int .u8 (z i))) := by rw [hzd]; exact hc2.out
      clear hc2 hz hzd hcell hwf hzl hcm hlc
      by_cases hn : 1 ≤ len0 ∧ len0 ≤ 18
      · obtain ⟨hn1, hn2⟩ := hn
        cases hal : allD z len0
        · have hok := okD_bad z len0 hal
          have hnu := numD_no z len0 hok
          go_enter Try.func3, Try.ntmps3
          go_wp2_with (first
            | (go_at_call 7; refine (bytes7_any _ _ _ _ hml).mono ?_; rintro e w' ⟨rfl, rfl⟩)
            | (go_at_call 8; refine (digits_any _ _ _ z _ hml hz'.out hrow.out).mono ?_; rintro e w' ⟨rfl, rfl⟩)
            | (go_at_call 9; refine (allDec_any _ _ _ z _ hml hz'.out hrow.out).mono ?_; rintro e w' ⟨rfl, rfl⟩))
          go_ret
          exact ⟨rfl, hbel.out⟩
        · have hok := okD_ok z len0 hn1 hn2 hal
          have hnu := numD_ok z len0 hok
          go_enter Try.func3, Try.ntmps3
          go_wp2_with (first
            | (go_at_call 7; refine (bytes7_any _ _ _ _ hml).mono ?_; rintro e w' ⟨rfl, rfl⟩)
            | (go_at_call 8; refine (digits_any _ _ _ z _ hml hz'.out hrow.out).mono ?_; rintro e w' ⟨rfl, rfl⟩)
            | (go_at_call 9; refine (allDec_any _ _ _ z _ hml hz'.out hrow.out).mono ?_; rintro e w' ⟨rfl, rfl⟩))
          clear hmk hcp hnil hok hnu
          go_loop [7, 8, 9] (fun v p j => ∃ (m : Nat) (W P : Int), m ≤ len0 ∧ j = .int .i64 ((m : Int) - 1) ∧ v = .int .i64 W ∧ p = .int .i64 P ∧ 0 ≤ W ∧ Hid (W < ten (len0 - m)) ∧ Hid (1 ≤ m → P = ten (len0 - m)) ∧
              Hid (val z len0 = val z m * ten (len0 - m) + W)) (fun _ _ j => (intOf j + 1).toNat)
          case atStart => exact ⟨len0, 0, 1, Nat.le_refl _, by go_num, rfl, rfl, Int.le_refl _, by show (0 : Int) < ten (len0 - len0); rw [Nat.sub_self]; decide, fun _ => by rw [Nat.sub_self]; rfl, by show _ = _; rw [Nat.sub_self]; simp [ten]⟩
          case round =>
            obtain ⟨m, W, P, hm, rfl, rfl, rfl, hW0, hWt, hPt, hV⟩ := hrel
            by_cases hm1 : 1 ≤ m
            · have hPe := hPt.out hm1
              have hck := hc3.out (m - 1) (by omega)
              have hzk := allD_at z len0 hal (m - 1) (by omega)
              have hP1 : 1 ≤ P := by rw [hPe]; exact ten_pos _
              have hP2 : P ≤ 100000000000000000 := by rw [hPe]; exact ten_17 _ (by omega)
              have hWP : W < P := by rw [hPe]; exact hWt.out
              have hpd := prod_bd (z (m - 1) - 48) P (by omega) (by omega) hP1
              have hV' : Hid (val z len0 = val z (m - 1) * ten (len0 - (m - 1)) + (W + (z (m - 1) - 48) * P)) := step_val z len0 m W P hm1 hm hPe hV.out
              have hW' : Hid (W + (z (m - 1) - 48) * P < ten (len0 - (m - 1))) := step_lt len0 m W P _ hm1 hm hPe hWP hpd.2
              have hP' : Hid (P * 10 = ten (len0 - (m - 1))) := step_ten len0 m P hm1 hm hPe
              clear hPe hPt hWt hV hal
              go_wp2
              · go_round
                case rel => exact ⟨m - 1, W + (z (m - 1) - 48) * P, P * 10, by omega, by go_num, rfl, rfl, by omega, hW'.out, fun _ => hP'.out, hV'.out⟩
                case measure => simp [intOf]; omega
              · go_round
                case rel => exact ⟨m - 1, W + (z (m - 1) - 48) * P, P, by omega, by go_num, rfl, rfl, by omega, hW'.out, fun h => by omega, hV'.out⟩
                case measure => simp [intOf]; omega
            · have hE : Hid ((val z len0 == W) = true) := by
                have h := hV.out
                obtain rfl : m = 0 := by omega
                show _ = _
                rw [h]; simp [val]
              clear hV hWt hPt
              go_wp2
              go_ret
              exact ⟨ret_bool hE.out, hbel.out⟩
      · have hok := okD_len z len0 hn
        have hnu := numD_no z len0 hok
        go_enter Try.func3, Try.ntmps3
        go_wp2_with (first
          | (go_at_call 7; refine (bytes7_any _ _ _ _ hml).mono ?_; rintro e w' ⟨rfl, rfl⟩)
          | (go_at_call 8; refine (digits_any _ _ _ z _ hml hz'.out hrow.out).mono ?_; rintro e w' ⟨rfl, rfl⟩))
        all_goals
          go_ret
          exact ⟨rfl, hbel.out⟩
    · have hb : decide (len0 ≤ 1048576) = false := decide_eq_false hbig
      go_enter Try.func3, Try.ntmps3
      go_wp2_with (go_at_call 7; refine (bytes7_any _ _ _ _ hml).mono ?_; rintro e w' ⟨rfl, rfl⟩)
      go_ret
      exact ⟨rfl, Below.refl _ _⟩

/-! ### THE ROW's STEP: WRITTEN OUT: LEAVE IT -/
set_option maxRecDepth 100000 in
theorem lifted (os : Os) (started : os.Started) (H : Type) (enc : TypeId × Value → H) :
    ReturnsInHanded {} Try.checked os 3 .any (Rows.fnDigitsIsDecimalValueSpec.pre6 enc Try.prog Try.f3 Rows.fnDigitsIsDecimalValueRow.domain false) (Rows.fnDigitsIsDecimalValueSpec.post enc Try.prog Try.f3 false true false false) := by
  refine returnsInHanded_of_change (C := Try.checked) own started (by kernel_rfl) Try.func3
    (ChangeSpec.witness6 (enc := enc) (C := Try.checked) false ⟨#[], #[.slice none 0 0], []⟩ 8 (by kernel_rfl) (by kernel_rfl) (by kernel_rfl) (by kernel_rfl)) ?_
  intro W base args ds gs before hval0 hW hcnd _
  have hval : ∀ (j : Nat) t v, Try.f3.params[j]? = some t → args[j]? = some v → Value.okWide Try.prog W .any base t v := hval0
  have hW' := hW
  obtain ⟨p, q, hA0, hV, rfl, hfz, hnd⟩ := hW
  have hA : DataW.TrodAll enc Try.prog W 0 (fun _ => true) true Try.f3.params.toList args.toList ds p := hA0
  rw [Try.params3] at hA hval
  obtain ⟨v0, vs0, d0, ds0, p0, q0, hargs, rfl, rfl, h0, r0⟩ := trodAll_cons hA
  obtain ⟨rfl, rfl, rfl⟩ := trodAll_nil r0
  obtain rfl : args = #[v0] := by cases args; simp_all
  obtain ⟨rfl, rfl⟩ := trodVars_none hV
  obtain ⟨a0, len0, cap0, rfl⟩ := okWide_slice Try.underlying22 (hval 0 22 v0 rfl rfl)
  have k0 := h0
  have lt0 : ∀ x ∈ p0, x.block < W.heap.size := by obtain ⟨m, hm⟩ := k0; exact DataW.trod_lt m _ _ _ hm
  obtain ⟨z0, w0⟩ : ∃ zs, IsRow .u8 W a0 len0 cap0 zs := by
    obtain ⟨fuel, hf⟩ := h0
    rcases open_ints Try.underlying22 Try.underlying5 (by kernel_rfl) hf with ⟨hcs, _⟩ | ⟨x, l, c, zs, hcs, _, hl, hm, hz, _, hcell, hwz⟩
    · simp [Value.cells] at hcs
      obtain ⟨rfl, rfl, rfl⟩ := hcs
      exact ⟨[], .inl ⟨rfl, rfl, rfl, rfl⟩⟩
    · simp [Value.cells] at hcs
      obtain ⟨rfl, rfl, rfl⟩ := hcs
      exact ⟨zs, .inr ⟨_, rfl, hl, hm, by simpa using hz, hcell, hwz⟩⟩
  clear hA0 hval0
  refine (walk a0 len0 cap0 z0 W w0).mono fun e W' ⟨he, bel⟩ => ?_
  subst he
  exact ⟨_, rfl, _, _, _, [], _, [], hW', trodAll_mk1 (shut_bool Try.underlying4 _), (trodAll_cons_mk (Below.trod laidOut (by kernel_rfl) (of_decide_eq_true (by kernel_rfl)) k0 bel lt0) trodAll_mk0), rfl, bel.frame _, fun h => by cases h⟩

theorem over : Rows.fnDigitsIsDecimalValueRow.holds Try.pinned (OpenSpec.ofChange Rows.fnDigitsIsDecimalValueSpec) :=
  OpenClaim.holds_of_wide 3 Try.f3 rfl rfl rfl rfl rfl rfl rfl ⟨rfl, rfl, rfl, rfl, rfl⟩ rfl rfl rfl rfl rfl (by kernel_rfl) Try.func3 (by kernel_rfl)
    (of_decide_eq_true (by kernel_rfl)) (by unfold Func.isWrapper; first | (rw [if_pos (by decide +kernel)]; kernel_rfl) | (rw [if_neg (by decide +kernel)]; exact ⟨rfl, rfl⟩))
    (fun os started H enc _ => lifted os started H enc)

/-- ████ THE STATEMENT ████ -/
theorem proved : Rows.FnDigitsIsDecimalValueSaid := over
end Go.Proofs.Qxb6617347a.fnDigitsIsDecimalValue
