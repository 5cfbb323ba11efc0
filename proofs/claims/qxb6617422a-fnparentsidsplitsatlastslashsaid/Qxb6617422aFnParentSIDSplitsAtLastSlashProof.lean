/-
  A PROOF OF 'Rows.FnParentSIDSplitsAtLastSlashSaid' ('example.com/elapsemap/elapsemap/zzlaws_spantree_b1.FnParentSIDSplitsAtLastSlash'): the guide's shell, its walk filled.
-/
import Derived.Test.Qxb6617422aRows
import Derived.WalkKit
import Derived.ProofKit
import Derived.OpenShut
import Derived.ShutString
import Derived.Test.Qxb6617422aParent
import Derived.Test.Qxb6617422aJoin
namespace Go.Proofs.Qxb6617422a.fnParentSIDSplitsAtLastSlash
open Go.ChangeShapes Go.WideShapes Go.ChangeAt Go.RowKit
open Go.ChangeMaps (open_string shut_string)
open Sl
set_option linter.unusedVariables false      -- a walk need not use every 'w<i>' (that an integer argument fits its kind)

theorem own : ownKnob Try.prog.godebug = none := by kernel_rfl

/-! ### STEP 1: THE WALK: the Go text returns true. 'Grown w w'': the world has at most new blocks (Derived/RowKit3.lean). Part the cases AHEAD of 'go_enter' where a test parts the walk; take each callee by a contract of your own. -/
set_option maxHeartbeats 2000000 in
theorem walk (a0 : ByteArray) (a1 : ByteArray) (w0 : a0.size ≤ maxLen) (w1 : a1.size ≤ maxLen) (w : World) :
    Calls Try.prog 4 #[.string a0, .string a1] w fun e w' => e = .returned (.bool true) ∧ Grown w w' := by
  have hs0 := w0; have hs1 := w1
  unfold maxLen at hs0 hs1
  by_cases hbig : a0.size + a1.size ≤ 1048576
  · have hb : decide (a0.size + a1.size ≤ 1048576) = true := decide_eq_true hbig
    have b0 : a0.size ≤ 4194304 := by omega
    have b1 : a1.size ≤ 4194304 := by omega
    have bJ : Hid ((a0 ++ ⟨#[47]⟩ ++ a1).size ≤ 4194304) := by show _ ≤ _; rw [join_size]; omega
    rcases last_spec (bt a1) a1.size with ⟨e1, n1⟩ | ⟨k, hk, e1, c1, n1⟩
    · have eJ : Hid (lastIx (bt (a0 ++ ⟨#[47]⟩ ++ a1)) (a0 ++ ⟨#[47]⟩ ++ a1).size = (a0.size : Int)) := last_join_no a0 a1 n1
      have hJ : Hid (a0.size < (a0 ++ ⟨#[47]⟩ ++ a1).size) := by show _ < _; rw [join_size]; omega
      clear n1
      rcases last_spec (bt a0) a0.size with ⟨e0, n0⟩ | ⟨i, hi, e0, c0, n0⟩
      · have hno := has_no (bt a0) a0.size n0
        clear n0
        go_enter Try.func4, Try.ntmps4
        go_wp2_with (go_at_call 10; refine (bytes10_any _ _ _ w0 w1).mono ?_; rintro e w' ⟨rfl, rfl⟩)
        refine (zz_no a0 _ b0 e0).mono ?_
        rintro e w' ⟨rfl, rfl⟩
        go_wp2_with fail
        refine (noSlash_any _ _ b0 hno).mono ?_
        rintro e w' ⟨rfl, rfl⟩
        go_wp2_with fail
        refine (zz_no a1 _ b1 e1).mono ?_
        rintro e w' ⟨rfl, rfl⟩
        go_wp2_with fail
        refine (zz_yes _ a0.size _ bJ.out hJ.out eJ.out).mono ?_
        rintro e w' ⟨r, rfl, hr, hrl, rfl⟩
        have hfin := take_join_no a0 a1 r hrl.out
        go_wp2
        go_ret
        exact ⟨rfl, Grown.refl _⟩
      · have hsl : ((a0[i]'hi).toNat : Int) = 47 := by rw [bt_get a0 i hi]; exact c0
        have hbe : Hid (has (bt (a0.extract (i + 1) a0.size)) (a0.extract (i + 1) a0.size).size = false) := has_behind a0 i n0
        clear c0 n0
        go_enter Try.func4, Try.ntmps4
        go_wp2_with (go_at_call 10; refine (bytes10_any _ _ _ w0 w1).mono ?_; rintro e w' ⟨rfl, rfl⟩)
        refine (zz_yes a0 i _ b0 hi e0).mono ?_
        rintro e w' ⟨p, rfl, hp, hpl, rfl⟩
        have hpe : ((a0.extract 0 i).toList == p.toList) = true := by rw [beq_iff_eq, hpl.out, extract_take]
        have hex : Hid ((a0.extract (i + 1) a0.size).size ≤ 4194304) := by show _ ≤ _; simp; omega
        go_wp2_with fail
        refine (noSlash_any _ _ hex.out hbe.out).mono ?_
        rintro e w' ⟨rfl, rfl⟩
        go_wp2_with fail
        refine (zz_no a1 _ b1 e1).mono ?_
        rintro e w' ⟨rfl, rfl⟩
        go_wp2_with fail
        refine (zz_yes _ a0.size _ bJ.out hJ.out eJ.out).mono ?_
        rintro e w' ⟨r, rfl, hr, hrl, rfl⟩
        have hfin := take_join_no a0 a1 r hrl.out
        go_wp2
        go_ret
        exact ⟨rfl, Grown.refl _⟩
    · have eJ : Hid (lastIx (bt (a0 ++ ⟨#[47]⟩ ++ a1)) (a0 ++ ⟨#[47]⟩ ++ a1).size = ((a0.size + 1 + k : Nat) : Int)) := last_join_yes a0 a1 k hk c1 n1
      have hJ : Hid (a0.size + 1 + k < (a0 ++ ⟨#[47]⟩ ++ a1).size) := by show _ < _; rw [join_size]; omega
      clear n1 c1
      rcases last_spec (bt a0) a0.size with ⟨e0, n0⟩ | ⟨i, hi, e0, c0, n0⟩
      · have hno := has_no (bt a0) a0.size n0
        clear n0
        go_enter Try.func4, Try.ntmps4
        go_wp2_with (go_at_call 10; refine (bytes10_any _ _ _ w0 w1).mono ?_; rintro e w' ⟨rfl, rfl⟩)
        refine (zz_no a0 _ b0 e0).mono ?_
        rintro e w' ⟨rfl, rfl⟩
        go_wp2_with fail
        refine (noSlash_any _ _ b0 hno).mono ?_
        rintro e w' ⟨rfl, rfl⟩
        go_wp2_with fail
        refine (zz_yes a1 k _ b1 hk e1).mono ?_
        rintro e w' ⟨q, rfl, hq, hql, rfl⟩
        go_wp2_with fail
        refine (zz_yes _ (a0.size + 1 + k) _ bJ.out hJ.out eJ.out).mono ?_
        rintro e w' ⟨r, rfl, hr, hrl, rfl⟩
        have hfin := take_join_yes a0 a1 r q k hrl.out hql.out
        go_wp2
        go_ret
        exact ⟨rfl, Grown.refl _⟩
      · have hsl : ((a0[i]'hi).toNat : Int) = 47 := by rw [bt_get a0 i hi]; exact c0
        have hbe : Hid (has (bt (a0.extract (i + 1) a0.size)) (a0.extract (i + 1) a0.size).size = false) := has_behind a0 i n0
        clear c0 n0
        go_enter Try.func4, Try.ntmps4
        go_wp2_with (go_at_call 10; refine (bytes10_any _ _ _ w0 w1).mono ?_; rintro e w' ⟨rfl, rfl⟩)
        refine (zz_yes a0 i _ b0 hi e0).mono ?_
        rintro e w' ⟨p, rfl, hp, hpl, rfl⟩
        have hpe : ((a0.extract 0 i).toList == p.toList) = true := by rw [beq_iff_eq, hpl.out, extract_take]
        have hex : Hid ((a0.extract (i + 1) a0.size).size ≤ 4194304) := by show _ ≤ _; simp; omega
        go_wp2_with fail
        refine (noSlash_any _ _ hex.out hbe.out).mono ?_
        rintro e w' ⟨rfl, rfl⟩
        go_wp2_with fail
        refine (zz_yes a1 k _ b1 hk e1).mono ?_
        rintro e w' ⟨q, rfl, hq, hql, rfl⟩
        go_wp2_with fail
        refine (zz_yes _ (a0.size + 1 + k) _ bJ.out hJ.out eJ.out).mono ?_
        rintro e w' ⟨r, rfl, hr, hrl, rfl⟩
        have hfin := take_join_yes a0 a1 r q k hrl.out hql.out
        go_wp2
        go_ret
        exact ⟨rfl, Grown.refl _⟩
  · have hb : decide (a0.size + a1.size ≤ 1048576) = false := decide_eq_false hbig
    go_enter Try.func4, Try.ntmps4
    go_wp2_with (go_at_call 10; refine (bytes10_any _ _ _ w0 w1).mono ?_; rintro e w' ⟨rfl, rfl⟩)
    go_ret
    exact ⟨rfl, Grown.refl _⟩

/-! ### THE ROW's STEP: WRITTEN OUT: LEAVE IT -/
set_option maxRecDepth 100000 in
theorem lifted (os : Os) (started : os.Started) (H : Type) (enc : TypeId × Value → H) :
    ReturnsInHanded {} Try.checked os 4 .any (Rows.fnParentSIDSplitsAtLastSlashSpec.pre6 enc Try.prog Try.f4 Rows.fnParentSIDSplitsAtLastSlashRow.domain false) (Rows.fnParentSIDSplitsAtLastSlashSpec.post enc Try.prog Try.f4 false true false false) := by
  refine returnsInHanded_of_change (C := Try.checked) own started (by kernel_rfl) Try.func4
    (ChangeSpec.witness6 (enc := enc) (C := Try.checked) false ⟨#[], #[.string ByteArray.empty, .string ByteArray.empty], []⟩ 8 (by kernel_rfl) (by kernel_rfl) (by kernel_rfl) (by kernel_rfl)) ?_
  intro W base args ds gs before hval0 hW hcnd _
  have hval : ∀ (j : Nat) t v, Try.f4.params[j]? = some t → args[j]? = some v → Value.okWide Try.prog W .any base t v := hval0
  have hW' := hW
  obtain ⟨p, q, hA0, hV, rfl, hfz, hnd⟩ := hW
  have hA : DataW.TrodAll enc Try.prog W 0 (fun _ => true) true Try.f4.params.toList args.toList ds p := hA0
  rw [Try.params4] at hA hval
  obtain ⟨v0, vs0, d0, ds0, p0, q0, hargs, rfl, rfl, h0, r0⟩ := trodAll_cons hA
  obtain ⟨v1, vs1, d1, ds1, p1, q1, rfl, rfl, rfl, h1, r1⟩ := trodAll_cons r0
  obtain ⟨rfl, rfl, rfl⟩ := trodAll_nil r1
  obtain rfl : args = #[v0, v1] := by cases args; simp_all
  obtain ⟨rfl, rfl⟩ := trodVars_none hV
  obtain ⟨a0, rfl, rfl, rfl, w0⟩ := open_string Try.underlying9 (hval 0 9 v0 rfl rfl) h0
  obtain ⟨a1, rfl, rfl, rfl, w1⟩ := open_string Try.underlying9 (hval 1 9 v1 rfl rfl) h1
  clear hA0 hval0
  simp only [List.append_nil] at hW'
  refine (walk a0 a1 w0 w1 W).mono fun e W' ⟨he, hg⟩ => ?_
  subst he
  exact ⟨_, rfl, post_of_same (pa := []) (pv := []) hW' (fun _ _ _ => (trodAll_cons_mk (shut_bool Try.underlying4 _) trodAll_mk0)) (fun sp _ => (trodAll_cons_mk (shut_string Try.underlying9 w0) (trodAll_cons_mk (shut_string Try.underlying9 w1) trodAll_mk0))) (fun _ _ => rfl) rfl
    (hg.frame _) hg.2.1 (ok_one (by kernel_rfl) rfl (okWide_bool_mk Try.underlying4 _))⟩

theorem over : Rows.fnParentSIDSplitsAtLastSlashRow.holds Try.pinned (OpenSpec.ofChange Rows.fnParentSIDSplitsAtLastSlashSpec) :=
  OpenClaim.holds_of_wide 4 Try.f4 rfl rfl rfl rfl rfl rfl rfl ⟨rfl, rfl, rfl, rfl, rfl⟩ rfl rfl rfl rfl rfl (by kernel_rfl) Try.func4 (by kernel_rfl)
    (of_decide_eq_true (by kernel_rfl)) (by unfold Func.isWrapper; first | (rw [if_pos (by decide +kernel)]; kernel_rfl) | (rw [if_neg (by decide +kernel)]; exact ⟨rfl, rfl⟩))
    (fun os started H enc _ => lifted os started H enc)

/-- ████ THE STATEMENT ████ -/
theorem proved : Rows.FnParentSIDSplitsAtLastSlashSaid :=
  over
end Go.Proofs.Qxb6617422a.fnParentSIDSplitsAtLastSlash
