/-
  A PROOF OF 'Rows.FnParentSIDAncestorChainSaid' ('example.com/elapsemap/elapsemap/zzlaws_spantree_b1.FnParentSIDAncestorChain'): the guide's shell, its walk filled.
-/
import Derived.Test.Qxb6617422aRows
import Derived.WalkKit
import Derived.ProofKit
import Derived.OpenShut
import Derived.ShutString
import Derived.Test.Qxb6617422aParent
namespace Go.Proofs.Qxb6617422a.fnParentSIDAncestorChain
open Go.ChangeShapes Go.WideShapes Go.ChangeAt Go.RowKit
open Go.ChangeMaps (open_string shut_string)
open Sl
set_option linter.unusedVariables false      -- a walk need not use every 'w<i>' (that an integer argument fits its kind)

theorem own : ownKnob Try.prog.godebug = none := by kernel_rfl

/-! ### STEP 1: THE WALK: the Go text returns true. 'Grown w w'': the world has at most new blocks (Derived/RowKit3.lean). Part the cases AHEAD of 'go_enter' where a test parts the walk; take each callee by a contract of your own. -/
set_option maxHeartbeats 2000000 in
theorem walk (a0 : ByteArray) (w0 : a0.size ≤ maxLen) (w : World) :
    Calls Try.prog 5 #[.string a0] w fun e w' => e = .returned (.bool true) ∧ Grown w w' := by
  have hs0 := w0
  unfold maxLen at hs0
  by_cases hbig : a0.size ≤ 1048576
  · have hb : decide (a0.size ≤ 1048576) = true := decide_eq_true hbig
    by_cases h12 : a0.size ≤ 4096
    · go_enter Try.func5, Try.ntmps5
      go_wp2_with (go_at_call 13; refine (bytes13_any _ _ w0).mono ?_; rintro e w' ⟨rfl, rfl⟩)
      clear hb
      go_loop [3, 4, 5] (fun v r i => ∃ k : Nat, k ≤ a0.size ∧ i = .int .i64 k ∧ v = .int .i64 (cnt (bt a0) k : Nat) ∧ r = .int .i64 (fst (bt a0) a0.size k : Nat)) (fun _ _ i => a0.size - (intOf i).toNat)
      case atStart => exact ⟨0, Nat.zero_le _, rfl, rfl, rfl⟩
      case round =>
        obtain ⟨k, hk, rfl, rfl, rfl⟩ := hrel
        have hcl := cnt_le (bt a0) k
        by_cases hlt : k < a0.size
        · have hbk := bt_get a0 k hlt
          go_wp2
          · have h1 : (bt a0 k == 47) = true := by assumption
            have h2 : (((cnt (bt a0) k : Nat) : Int) == 0) = true := by assumption
            have h1' : bt a0 k = 47 := by simpa using h1
            have h2' : cnt (bt a0) k = 0 := by simp at h2; omega
            go_round
            case rel => exact ⟨k + 1, by omega, by go_num, by rw [cnt_hit _ _ h1']; go_num, by rw [fst_hit _ _ _ h1' h2']⟩
            case measure => simp [intOf]; omega
          · have h1 : (bt a0 k == 47) = true := by assumption
            have h2 : (((cnt (bt a0) k : Nat) : Int) == 0) = false := by assumption
            have h1' : bt a0 k = 47 := by simpa using h1
            have h2' : ¬ cnt (bt a0) k = 0 := by simp at h2; omega
            go_round
            case rel => exact ⟨k + 1, by omega, by go_num, by rw [cnt_hit _ _ h1']; go_num, by rw [fst_miss _ _ _ (fun x => h2' x.2)]⟩
            case measure => simp [intOf]; omega
          · have h1 : (bt a0 k == 47) = false := by assumption
            have h1' : ¬ bt a0 k = 47 := by simpa using h1
            go_round
            case rel => exact ⟨k + 1, by omega, by go_num, by rw [cnt_miss _ _ h1'], by rw [fst_miss _ _ _ (fun x => h1' x.1)]⟩
            case measure => simp [intOf]; omega
        · obtain rfl : k = a0.size := by omega
          have hroot := fst_le (bt a0) a0.size a0.size (Nat.le_refl _)
          go_wp2
          go_loop [6, 7, 8] (fun v s i => ∃ (c : ByteArray) (j : Nat), v = .string c ∧ c.size ≤ a0.size ∧ s = .int .i64 j ∧ i = .int .i64 j ∧ Hid (c.toList = a0.toList.take c.size) ∧ Hid (cnt (bt a0) c.size + j = cnt (bt a0) a0.size) ∧
              Hid (c.size = a0.size ∨ (c.size < a0.size ∧ bt a0 c.size = 47))) (fun _ _ i => a0.size + 1 - (intOf i).toNat)
          case atStart => exact ⟨a0, 0, rfl, Nat.le_refl _, rfl, rfl, by show _ = _; rw [← size_toList, List.take_length], rfl, .inl rfl⟩
          case round =>
            obtain ⟨c, j, rfl, hcs, rfl, rfl, hct, hcj, hce⟩ := hrel
            have hj : j ≤ a0.size := by have := hcj.out; omega
            have hz : ∀ t, t < c.size → bt c t = bt a0 t := fun t ht => bt_take hct.out t ht
            have hl := last_congr (bt c) (bt a0) c.size hz
            clear hz hcl
            rcases last_spec (bt a0) c.size with ⟨e0, n0⟩ | ⟨i, hi, e0, c0, n0⟩
            · have e1 : Hid (lastIx (bt c) c.size = -1) := hl.trans e0
              have hE : ((j : Int) == ((cnt (bt a0) a0.size : Nat) : Int)) = true := by
                have h1 := hcj.out
                rw [cnt_zero (bt a0) c.size n0] at h1
                simp; omega
              have hR : Hid (fst (bt a0) a0.size a0.size = c.size) := fst_root (bt a0) a0.size c.size hcs n0 hce.out
              have hQ : (c.toList == (a0.extract 0 (fst (bt a0) a0.size a0.size)).toList) = true := by rw [hR.out, beq_iff_eq, extract_take]; exact hct.out
              clear n0 e0 hl
              go_wp2_with (go_at_call 11; refine (zz_no _ _ (by omega) e1.out).mono ?_; rintro e w' ⟨rfl, rfl⟩)
              go_ret
              exact ⟨rfl, Grown.refl _⟩
            · have e1 : Hid (lastIx (bt c) c.size = (i : Int)) := hl.trans e0
              have hN : Hid (cnt (bt a0) i + (j + 1) = cnt (bt a0) a0.size) := by
                have h1 := hcj.out
                rw [cnt_last (bt a0) c.size i hi c0 n0] at h1
                show _ = _; omega
              have hC : Hid (bt a0 i = 47) := c0
              clear n0 e0 c0 hl
              go_wp2_with fail
              refine (zz_yes c i _ (by omega) hi e1.out).mono ?_
              rintro e w' ⟨p, rfl, hp, hpl, rfl⟩
              have hpe : ((c.extract 0 i).toList == p.toList) = true := by rw [beq_iff_eq, hpl.out, extract_take]
              go_wp2
              go_round
              case rel =>
                refine ⟨p, j + 1, rfl, by omega, by go_num, by go_num, ?_, ?_, ?_⟩
                · show p.toList = a0.toList.take p.size
                  rw [hp, hpl.out, hct.out, List.take_take, Nat.min_eq_left (by omega)]
                · show cnt (bt a0) p.size + (j + 1) = _
                  rw [hp]; exact hN.out
                · show p.size = a0.size ∨ (p.size < a0.size ∧ bt a0 p.size = 47)
                  rw [hp]; exact .inr ⟨by omega, hC.out⟩
              case measure => simp [intOf]; omega
    · go_enter Try.func5, Try.ntmps5
      go_wp2_with (go_at_call 13; refine (bytes13_any _ _ w0).mono ?_; rintro e w' ⟨rfl, rfl⟩)
      go_ret
      exact ⟨rfl, Grown.refl _⟩
  · have hb : decide (a0.size ≤ 1048576) = false := decide_eq_false hbig
    go_enter Try.func5, Try.ntmps5
    go_wp2_with (go_at_call 13; refine (bytes13_any _ _ w0).mono ?_; rintro e w' ⟨rfl, rfl⟩)
    go_ret
    exact ⟨rfl, Grown.refl _⟩

/-! ### THE ROW's STEP: WRITTEN OUT: LEAVE IT -/
set_option maxRecDepth 100000 in
theorem lifted (os : Os) (started : os.Started) (H : Type) (enc : TypeId × Value → H) :
    ReturnsInHanded {} Try.checked os 5 .any (Rows.fnParentSIDAncestorChainSpec.pre6 enc Try.prog Try.f5 Rows.fnParentSIDAncestorChainRow.domain false) (Rows.fnParentSIDAncestorChainSpec.post enc Try.prog Try.f5 false true false false) := by
  refine returnsInHanded_of_change (C := Try.checked) own started (by kernel_rfl) Try.func5
    (ChangeSpec.witness6 (enc := enc) (C := Try.checked) false ⟨#[], #[.string ByteArray.empty], []⟩ 8 (by kernel_rfl) (by kernel_rfl) (by kernel_rfl) (by kernel_rfl)) ?_
  intro W base args ds gs before hval0 hW hcnd _
  have hval : ∀ (j : Nat) t v, Try.f5.params[j]? = some t → args[j]? = some v → Value.okWide Try.prog W .any base t v := hval0
  have hW' := hW
  obtain ⟨p, q, hA0, hV, rfl, hfz, hnd⟩ := hW
  have hA : DataW.TrodAll enc Try.prog W 0 (fun _ => true) true Try.f5.params.toList args.toList ds p := hA0
  rw [Try.params5] at hA hval
  obtain ⟨v0, vs0, d0, ds0, p0, q0, hargs, rfl, rfl, h0, r0⟩ := trodAll_cons hA
  obtain ⟨rfl, rfl, rfl⟩ := trodAll_nil r0
  obtain rfl : args = #[v0] := by cases args; simp_all
  obtain ⟨rfl, rfl⟩ := trodVars_none hV
  obtain ⟨a0, rfl, rfl, rfl, w0⟩ := open_string Try.underlying9 (hval 0 9 v0 rfl rfl) h0
  clear hA0 hval0
  simp only [List.append_nil] at hW'
  refine (walk a0 w0 W).mono fun e W' ⟨he, hg⟩ => ?_
  subst he
  exact ⟨_, rfl, post_of_same (pa := []) (pv := []) hW' (fun _ _ _ => (trodAll_cons_mk (shut_bool Try.underlying4 _) trodAll_mk0)) (fun sp _ => (trodAll_cons_mk (shut_string Try.underlying9 w0) trodAll_mk0)) (fun _ _ => rfl) rfl
    (hg.frame _) hg.2.1 (ok_one (by kernel_rfl) rfl (okWide_bool_mk Try.underlying4 _))⟩

theorem over : Rows.fnParentSIDAncestorChainRow.holds Try.pinned (OpenSpec.ofChange Rows.fnParentSIDAncestorChainSpec) :=
  OpenClaim.holds_of_wide 5 Try.f5 rfl rfl rfl rfl rfl rfl rfl ⟨rfl, rfl, rfl, rfl, rfl⟩ rfl rfl rfl rfl rfl (by kernel_rfl) Try.func5 (by kernel_rfl)
    (of_decide_eq_true (by kernel_rfl)) (by unfold Func.isWrapper; first | (rw [if_pos (by decide +kernel)]; kernel_rfl) | (rw [if_neg (by decide +kernel)]; exact ⟨rfl, rfl⟩))
    (fun os started H enc _ => lifted os started H enc)

/-- ████ THE STATEMENT ████ -/
theorem proved : Rows.FnParentSIDAncestorChainSaid :=
  over
end Go.Proofs.Qxb6617422a.fnParentSIDAncestorChain
