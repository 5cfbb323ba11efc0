/-
  A PROOF OF 'Rows.FnDigitsSplitsAtAnyCutSaid' ('example.com/exposure/exposure/zzlaws_http1_b1.FnDigitsSplitsAtAnyCut'): the guide's shell, its walk filled.
-/
import Derived.Test.Qxb6617347aRows
import Derived.WalkKit
import Derived.ProofKit
import Derived.OpenShut
import Derived.ShutString
import Derived.ChangeOld
import Derived.Below
import Derived.Test.Qxb6617347aCut
namespace Go.Proofs.Qxb6617347a.fnDigitsSplitsAtAnyCut
open Go.ChangeShapes Go.WideShapes Go.ChangeAt Go.RowKit
open Go.ChangeMaps (open_string shut_string)
open Pl
set_option linter.unusedVariables false

theorem own : ownKnob Try.prog.godebug = none := by kernel_rfl
theorem laidOut : laidOutB Try.prog = true := by kernel_rfl

/-- WHAT THE WALK IS TOLD OF A SLICE OF INTEGERS THAT CAME IN: it is nil; or it leads to a row of 'cap' cells, the numbers 'zs' (the first 'len' are its elements, the rest its spare room), each fitting its kind. -/
def IsRow (k : IntKind) (w : World) (a : Option Addr) (len cap : Nat) (zs : List Int) : Prop :=
  (a = none ∧ len = 0 ∧ cap = 0 ∧ zs = []) ∨
  ∃ x, a = some x ∧ len ≤ cap ∧ cap ≤ maxLen ∧ zs.length = cap ∧ (∀ i, i < zs.length → w.cell? (x.add i) = some (.int k (zs.getD i 0))) ∧ ∀ n ∈ zs, (Lit.int k n).wf = true

/-! ### STEP 1: THE WALK: the Go text returns true, AND WRITES NOTHING THAT WAS THERE: 'Below w.heap.size w w'' (Derived/Below.lean: '.refl', '.alloc', '.drew', '.setCell' at a new block, '.trans'). Open each 'IsRow' by 'rcases' AHEAD of 'go_enter'; part every test ahead of the walk. -/
set_option maxRecDepth 20000 in
set_option maxHeartbeats 2000000 in
theorem walk (a0 : Option Addr) (len0 cap0 : Nat) (z0 : List Int) (a1 : Int) (w : World) (w0 : IsRow .u8 w a0 len0 cap0 z0) (w1 : (Lit.int .i64 a1).wf = true) :
    Calls Try.prog 4 #[.slice a0 len0 cap0, .int .i64 a1] w fun e w' => e = .returned (.bool true) ∧ Below w.heap.size w w' := by
  rcases w0 with ⟨rfl, rfl, rfl, rfl⟩ | ⟨x, rfl, hlc, hcm, hzl, hcell, hwf⟩
  · have hnil := fun wx => run_neq_slice_nil_any (P := Try.prog) wx 22 5 none 0 0 0 0 Try.underlying22
    have hml : 0 ≤ maxLen := by decide
    by_cases hi : a1 = 0
    · subst hi
      have hr4 : ∀ wx : World, RowD wx none 0 (fun _ => 0) := fun wx => ⟨.inl rfl, fun _ => by simp, by decide⟩
      have hk4 := okD_len (fun _ => 0) 0 (by omega)
      have hn4 := numD_no (fun _ => 0) 0 hk4
      go_enter Try.func4, Try.ntmps4
      go_wp2_with (first
        | (go_at_call 10; refine (bytes10_any _ _ _ _ _ hml).mono ?_; rintro e w' ⟨rfl, rfl⟩)
        | (go_at_call 8; refine (digD (hr4 _)).mono ?_; rintro e w' ⟨rfl, rfl⟩))
      go_ret
      exact ⟨ret_bool (by simp), Below.refl _ _⟩
    · rcases (show a1 < 0 ∨ 0 < a1 by omega) with hi' | hi'
      · go_enter Try.func4, Try.ntmps4
        go_wp2_with (go_at_call 10; refine (bytes10_any _ _ _ _ _ hml).mono ?_; rintro e w' ⟨rfl, rfl⟩)
        go_ret
        exact ⟨rfl, Below.refl _ _⟩
      · have hi3 : ¬ a1 < 0 := by omega
        go_enter Try.func4, Try.ntmps4
        go_wp2_with (go_at_call 10; refine (bytes10_any _ _ _ _ _ hml).mono ?_; rintro e w' ⟨rfl, rfl⟩)
        go_ret
        exact ⟨rfl, Below.refl _ _⟩
  · have hml : len0 ≤ maxLen := by omega
    have hml' := hml
    unfold maxLen at hml'
    by_cases hbig : len0 ≤ 1048576
    · have hb : decide (len0 ≤ 1048576) = true := decide_eq_true hbig
      by_cases hi : 0 ≤ a1 ∧ a1 ≤ len0
      · obtain ⟨hi0, hi1⟩ := hi
        obtain ⟨k, rfl⟩ : ∃ k : Nat, a1 = k := ⟨a1.toNat, by omega⟩
        have hi2 : k ≤ len0 := by omega
        obtain ⟨Z, wb, hmk, hcp, hbel, hsz, hc2⟩ := copied w x len0 cap0 z0 hbig (by omega) hcell
        have hnil := fun wx => run_neq_slice_nil_any (P := Try.prog) wx 22 5 (some x) len0 cap0 0 0 Try.underlying22
        have hz : ∀ i, 0 ≤ z0.getD i 0 ∧ z0.getD i 0 ≤ 255 := fun i => by simpa using range_u8 hwf i
        obtain ⟨z, hzd⟩ : ∃ z : Nat → Int, z = fun i => z0.getD i 0 := ⟨_, rfl⟩
        have hz' : Hid (∀ i, 0 ≤ z i ∧ z i ≤ 255) := by rw [hzd]; exact hz
        have hc3 : Hid (∀ i, i < len0 → wb.cell? ⟨w.heap.size, i, none⟩ = some (.int .u8 (z i))) := by rw [hzd]; exact hc2.out
        clear hc2 hz hzd hcell hwf hzl hcm hlc
        have hr1 : RowD wb (some ⟨w.heap.size, 0, none⟩) len0 z := ⟨.inr ⟨_, 0, rfl, fun t ht => by simpa using hc3.out t ht⟩, hz'.out, hml⟩
        have hr2 : RowD wb (some ⟨w.heap.size, 0, none⟩) k z := ⟨.inr ⟨_, 0, rfl, fun t ht => by simpa using hc3.out t (by omega)⟩, hz'.out, by omega⟩
        have hr3 : RowD wb (some ⟨w.heap.size, k, none⟩) (len0 - k) (tl z k) := ⟨.inr ⟨_, k, rfl, fun t ht => hc3.out (k + t) (by omega)⟩, fun i => hz'.out (k + i), by omega⟩
        have hr4 : RowD wb (some ⟨w.heap.size, 0, none⟩) 0 (fun _ => 0) := ⟨.inl rfl, fun _ => by simp, by decide⟩
        have hk4 := okD_len (fun _ => 0) 0 (by omega)
        have hn4 := numD_no (fun _ => 0) 0 hk4
        have hk5 := okD_len z 0 (by omega)
        have hn5 := numD_no z 0 hk5
        clear hz' hc3
        -- the verdict on the whole: refused for its length, refused for a byte, or a number
        rcases (show (okD z len0 = false ∧ (¬ (1 ≤ len0 ∧ len0 ≤ 18) ∨ (1 ≤ len0 ∧ len0 ≤ 18 ∧ allD z len0 = false))) ∨ (okD z len0 = true ∧ 1 ≤ len0 ∧ len0 ≤ 18 ∧ allD z len0 = true) by
          cases ho : okD z len0
          · by_cases hl : 1 ≤ len0 ∧ len0 ≤ 18
            · refine .inl ⟨rfl, .inr ⟨hl.1, hl.2, ?_⟩⟩
              cases ha : allD z len0
              · rfl
              · rw [okD_ok z len0 hl.1 hl.2 ha] at ho; cases ho
            · exact .inl ⟨rfl, .inl hl⟩
          · exact .inr ⟨rfl, okD_parts z len0 ho⟩) with ⟨hok, hno⟩ | ⟨hok, hl1, hl18, hal⟩
        · have hnu := numD_no z len0 hok
          by_cases hkn : len0 = k
          · subst hkn
            rcases hno with hno | ⟨hl1, hl18, hal⟩
            · rcases (show len0 < 1 ∨ 18 < len0 by omega) with hl | hl
              all_goals
                go_enter Try.func4, Try.ntmps4
                go_wp2_with (first
                  | (go_at_call 10; refine (bytes10_any _ _ _ _ _ hml).mono ?_; rintro e w' ⟨rfl, hw'⟩; have hw'' := hw'.symm; subst hw'')
                  | (go_at_call 8; refine (digD (by assumption)).mono ?_; rintro e w' ⟨rfl, hw'⟩; have hw'' := hw'.symm; subst hw''))
                go_ret
                exact ⟨rfl, hbel.out⟩
            · go_enter Try.func4, Try.ntmps4
              go_wp2_with (first
                | (go_at_call 10; refine (bytes10_any _ _ _ _ _ hml).mono ?_; rintro e w' ⟨rfl, hw'⟩; have hw'' := hw'.symm; subst hw'')
                | (go_at_call 8; refine (digD (by assumption)).mono ?_; rintro e w' ⟨rfl, hw'⟩; have hw'' := hw'.symm; subst hw'')
                | (go_at_call 9; refine (allD_D (by assumption)).mono ?_; rintro e w' ⟨rfl, hw'⟩; have hw'' := hw'.symm; subst hw''))
              go_ret
              exact ⟨rfl, hbel.out⟩
          · rcases hno with hno | ⟨hl1, hl18, hal⟩
            · rcases (show len0 < 1 ∨ 18 < len0 by omega) with hl | hl
              · omega
              · go_enter Try.func4, Try.ntmps4
                go_wp2_with (first
                  | (go_at_call 10; refine (bytes10_any _ _ _ _ _ hml).mono ?_; rintro e w' ⟨rfl, hw'⟩; have hw'' := hw'.symm; subst hw'')
                  | (go_at_call 8; refine (digD (by assumption)).mono ?_; rintro e w' ⟨rfl, hw'⟩; have hw'' := hw'.symm; subst hw''))
                go_ret
                exact ⟨rfl, hbel.out⟩
            · go_enter Try.func4, Try.ntmps4
              go_wp2_with (first
                | (go_at_call 10; refine (bytes10_any _ _ _ _ _ hml).mono ?_; rintro e w' ⟨rfl, hw'⟩; have hw'' := hw'.symm; subst hw'')
                | (go_at_call 8; refine (digD (by assumption)).mono ?_; rintro e w' ⟨rfl, hw'⟩; have hw'' := hw'.symm; subst hw'')
                | (go_at_call 9; refine (allD_D (by assumption)).mono ?_; rintro e w' ⟨rfl, hw'⟩; have hw'' := hw'.symm; subst hw''))
              go_ret
              exact ⟨rfl, hbel.out⟩
        · by_cases hkn : len0 = k
          · subst hkn
            have hne : ((len0 : Int) == 0) = false := by simp; omega
            go_enter Try.func4, Try.ntmps4
            go_wp2_with (first
              | (go_at_call 10; refine (bytes10_any _ _ _ _ _ hml).mono ?_; rintro e w' ⟨rfl, hw'⟩; have hw'' := hw'.symm; subst hw'')
              | (go_at_call 8; refine (digD (by assumption)).mono ?_; rintro e w' ⟨rfl, hw'⟩; have hw'' := hw'.symm; subst hw'')
              | (go_at_call 9; refine (allD_D (by assumption)).mono ?_; rintro e w' ⟨rfl, hw'⟩; have hw'' := hw'.symm; subst hw''))
            go_ret
            exact ⟨ret_bool (by simp), hbel.out⟩
          · by_cases hk0 : k = 0
            · subst hk0
              clear hr3
              go_enter Try.func4, Try.ntmps4
              go_wp2_with (first
                | (go_at_call 10; refine (bytes10_any _ _ _ _ _ hml).mono ?_; rintro e w' ⟨rfl, hw'⟩; have hw'' := hw'.symm; subst hw'')
                | (go_at_call 8; refine (digD (by assumption)).mono ?_; rintro e w' ⟨rfl, hw'⟩; have hw'' := hw'.symm; subst hw'')
                | (go_at_call 9; refine (allD_D (by assumption)).mono ?_; rintro e w' ⟨rfl, hw'⟩; have hw'' := hw'.symm; subst hw''))
              go_ret
              exact ⟨ret_bool (by simp), hbel.out⟩
            · obtain ⟨c1, c2, c3, c4, c5, c6, c7⟩ := cut_law z len0 k (by omega) (by omega) hok
              have C3 : Hid (numD z len0 = numD z k * ten (len0 - k) + numD (tl z k) (len0 - k)) := c3
              have hne : ((k : Int) == 0) = false := by simp; omega
              have hne2 : (((len0 - k : Nat) : Int) == 0) = false := by simp; omega
              clear c3
              go_enter Try.func4, Try.ntmps4
              go_wp2_with (first
                | (go_at_call 10; refine (bytes10_any _ _ _ _ _ hml).mono ?_; rintro e w' ⟨rfl, hw'⟩; have hw'' := hw'.symm; subst hw'')
                | (go_at_call 8; refine (digD (by assumption)).mono ?_; rintro e w' ⟨rfl, hw'⟩; have hw'' := hw'.symm; subst hw'')
                | (go_at_call 9; refine (allD_D (by assumption)).mono ?_; rintro e w' ⟨rfl, hw'⟩; have hw'' := hw'.symm; subst hw'')
                | (go_at_call 11; refine (pow10_any (len0 - k) _ (by omega)).mono ?_; rintro e w' ⟨rfl, hw'⟩; have hw'' := hw'.symm; subst hw''))
              go_ret
              exact ⟨ret_bool (by rw [C3.out]; simp), hbel.out⟩
      · have hi' : a1 < 0 ∨ (len0 : Int) < a1 := by omega
        rcases hi' with hi' | hi'
        · go_enter Try.func4, Try.ntmps4
          go_wp2_with (go_at_call 10; refine (bytes10_any _ _ _ _ _ hml).mono ?_; rintro e w' ⟨rfl, rfl⟩)
          go_ret
          exact ⟨rfl, Below.refl _ _⟩
        · have hi3 : ¬ a1 < 0 := by omega
          go_enter Try.func4, Try.ntmps4
          go_wp2_with (go_at_call 10; refine (bytes10_any _ _ _ _ _ hml).mono ?_; rintro e w' ⟨rfl, rfl⟩)
          go_ret
          exact ⟨rfl, Below.refl _ _⟩
    · have hb : decide (len0 ≤ 1048576) = false := decide_eq_false hbig
      go_enter Try.func4, Try.ntmps4
      go_wp2_with (go_at_call 10; refine (bytes10_any _ _ _ _ _ hml).mono ?_; rintro e w' ⟨rfl, rfl⟩)
      go_ret
      exact ⟨rfl, Below.refl _ _⟩

/-! ### THE ROW's STEP: WRITTEN OUT: LEAVE IT -/
set_option maxRecDepth 100000 in
theorem lifted (os : Os) (started : os.Started) (H : Type) (enc : TypeId × Value → H) :
    ReturnsInHanded {} Try.checked os 4 .any (Rows.fnDigitsSplitsAtAnyCutSpec.pre6 enc Try.prog Try.f4 Rows.fnDigitsSplitsAtAnyCutRow.domain false) (Rows.fnDigitsSplitsAtAnyCutSpec.post enc Try.prog Try.f4 false true false false) := by
  refine returnsInHanded_of_change (C := Try.checked) own started (by kernel_rfl) Try.func4
    (ChangeSpec.witness6 (enc := enc) (C := Try.checked) false ⟨#[], #[.slice none 0 0, .int .i64 0], []⟩ 8 (by kernel_rfl) (by kernel_rfl) (by kernel_rfl) (by kernel_rfl)) ?_
  intro W base args ds gs before hval0 hW hcnd _
  have hval : ∀ (j : Nat) t v, Try.f4.params[j]? = some t → args[j]? = some v → Value.okWide Try.prog W .any base t v := hval0
  have hW' := hW
  obtain ⟨p, q, hA0, hV, rfl, hfz, hnd⟩ := hW
  have hA : DataW.TrodAll enc Try.prog W 0 (fun _ => true) true Try.f4.params.toList args.toList ds p := hA0
  rw [Try.params4] at hA hval
  obtain ⟨v0, vs0, d0, ds0, p0, q0, hargs, rfl, rfl, h0, r0⟩ := trodAll_cons hA
  obtain ⟨v1, vs1, d1, ds1, p1, q1, rfl, rfl, rfl, h1, r1⟩ := trodAll_cons r0
  obtain ⟨rfl, rfl, rfl⟩ := trodAll_nil r1
  obtain rfl : args = #[v0, v1] := by cases args; simp_all
  obtain ⟨rfl, rfl⟩ := trodVars_none hV
  obtain ⟨a0, len0, cap0, rfl⟩ := okWide_slice Try.underlying22 (hval 0 22 v0 rfl rfl)
  have k0 := h0
  have lt0 : ∀ x ∈ p0, x.block < W.heap.size := by obtain ⟨m, hm⟩ := k0; exact DataW.trod_lt m _ _ _ hm
  obtain ⟨z0, w0⟩ : ∃ zs, IsRow .u8 W a0 len0 cap0 zs := by
    obtain ⟨fuel, hf⟩ := h0
    rcases open_ints Try.underlying22 Try.underlying5 (by kernel_rfl) hf with ⟨hcs, _⟩ | ⟨x, l, c, zs, hcs, _, hl, hm, hz, _, hcell, hwz⟩
    · simp [Value.cells] at hcs
      obtain ⟨rfl, rfl, rfl⟩ := hcs
      exact ⟨[], .inl ⟨rfl, rfl, rfl, rfl⟩⟩
    · simp [Value.cells] at hcs
      obtain ⟨rfl, rfl, rfl⟩ := hcs
      exact ⟨zs, .inr ⟨_, rfl, hl, hm, by simpa using hz, hcell, hwz⟩⟩
  obtain ⟨a1, rfl, rfl, rfl, w1⟩ := open_int Try.underlying3 (hval 1 3 v1 rfl rfl) h1
  clear hA0 hval0
  refine (walk a0 len0 cap0 z0 a1 W w0 w1).mono fun e W' ⟨he, bel⟩ => ?_
  subst he
  exact ⟨_, rfl, _, _, _, [], _, [], hW', trodAll_mk1 (shut_bool Try.underlying4 _), (trodAll_cons_mk (Below.trod laidOut (by kernel_rfl) (of_decide_eq_true (by kernel_rfl)) k0 bel lt0) (trodAll_cons_mk (shut_int Try.underlying3 w1) trodAll_mk0)), rfl, bel.frame _, fun h => by cases h⟩

theorem over : Rows.fnDigitsSplitsAtAnyCutRow.holds Try.pinned (OpenSpec.ofChange Rows.fnDigitsSplitsAtAnyCutSpec) :=
  OpenClaim.holds_of_wide 4 Try.f4 rfl rfl rfl rfl rfl rfl rfl ⟨rfl, rfl, rfl, rfl, rfl⟩ rfl rfl rfl rfl rfl (by kernel_rfl) Try.func4 (by kernel_rfl)
    (of_decide_eq_true (by kernel_rfl)) (by unfold Func.isWrapper; first | (rw [if_pos (by decide +kernel)]; kernel_rfl) | (rw [if_neg (by decide +kernel)]; exact ⟨rfl, rfl⟩))
    (fun os started H enc _ => lifted os started H enc)

/-- ████ THE STATEMENT ████ -/
theorem proved : Rows.FnDigitsSplitsAtAnyCutSaid := over
end Go.Proofs.Qxb6617347a.fnDigitsSplitsAtAnyCut
