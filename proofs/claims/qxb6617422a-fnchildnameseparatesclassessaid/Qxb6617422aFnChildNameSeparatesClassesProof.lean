/-
  A PROOF OF 'Rows.FnChildNameSeparatesClassesSaid' ('example.com/elapsemap/elapsemap/zzlaws_spantree_b1.FnChildNameSeparatesClasses'): the guide's shell, its walk filled.
-/
import Derived.Test.Qxb6617422aRows
import Derived.WalkKit
import Derived.ProofKit
import Derived.OpenShut
import Derived.ShutString
import Derived.Test.Qxb6617422aNames
namespace Go.Proofs.Qxb6617422a.fnChildNameSeparatesClasses
open Go.ChangeShapes Go.WideShapes Go.ChangeAt Go.RowKit
open Go.ChangeMaps (open_string shut_string)
open Pl
set_option linter.unusedVariables false      -- a walk need not use every 'w<i>' (that an integer argument fits its kind)

theorem own : ownKnob Try.prog.godebug = none := by kernel_rfl

/-! ### STEP 1: THE WALK: the Go text returns true. 'Grown w w'': the world has at most new blocks (Derived/RowKit3.lean). Part the cases AHEAD of 'go_enter' where a test parts the walk; take each callee by a contract of your own. -/
set_option maxHeartbeats 2000000 in
theorem walk (a0 : ByteArray) (a1 : ByteArray) (a2 : ByteArray) (a3 : ByteArray) (w0 : a0.size ≤ maxLen) (w1 : a1.size ≤ maxLen) (w2 : a2.size ≤ maxLen) (w3 : a3.size ≤ maxLen) (w : World) :
    Calls Try.prog 3 #[.string a0, .string a1, .string a2, .string a3] w fun e w' => e = .returned (.bool true) ∧ Grown w w' := by
  have hs0 := w0; have hs1 := w1; have hs2 := w2; have hs3 := w3
  unfold maxLen at hs0 hs1 hs2 hs3
  by_cases hbig : a0.size + a1.size + a2.size + a3.size ≤ 1048576
  · have hb : decide (a0.size + a1.size + a2.size + a3.size ≤ 1048576) = true := decide_eq_true hbig
    have b0 : a0.size ≤ 1048576 := by omega
    have b1 : a1.size ≤ 1048576 := by omega
    have b2 : a2.size ≤ 1048576 := by omega
    have b3 : a3.size ≤ 1048576 := by omega
    go_enter Try.func3, Try.ntmps3
    go_wp2_with (go_at_call 6; refine (bytes6_any _ _ _ _ _ w0 w1 w2 w3).mono ?_; rintro e w' ⟨rfl, rfl⟩)
    refine (zzchild_any _ _ _ b0 b1).mono ?_
    rintro e w' ⟨n1, rfl, hn1, rfl⟩
    go_wp2_with fail
    refine (zzchild_any _ _ _ b2 b3).mono ?_
    rintro e w' ⟨n2, rfl, hn2, rfl⟩
    go_wp2_with fail
    refine (key_any _ _ _ b0 b1).mono ?_
    rintro e w' ⟨k1, rfl, hk1, rfl⟩
    go_wp2_with fail
    refine (key_any _ _ _ b2 b3).mono ?_
    rintro e w' ⟨k2, rfl, hk2, rfl⟩
    have hq := name_key_test hn1.out hn2.out hk1.out hk2.out
    have hk : k1.size ≤ 2097152 := by
      have := kind_len a0.toList a1.toList
      rw [size_toList, size_toList] at this
      rw [← size_toList, hk1.out]
      show (_ :: _).length ≤ _
      rw [List.length_cons]
      omega
    go_wp2_with fail
    refine (of_any k1 (kind a0.toList a1.toList).1 (kind a0.toList a1.toList).2 _ hk hk1).mono ?_
    rintro e w' ⟨m1, rfl, hm1, rfl⟩
    have hq2 : (n1.toList == m1.toList) = true := by rw [hn1.out, hm1.out]; simp [nameL]
    go_wp2
    go_ret
    exact ⟨rfl, Grown.refl _⟩
  · have hb : decide (a0.size + a1.size + a2.size + a3.size ≤ 1048576) = false := decide_eq_false hbig
    go_enter Try.func3, Try.ntmps3
    go_wp2_with (go_at_call 6; refine (bytes6_any _ _ _ _ _ w0 w1 w2 w3).mono ?_; rintro e w' ⟨rfl, rfl⟩)
    go_ret
    exact ⟨rfl, Grown.refl _⟩

/-! ### THE ROW's STEP: WRITTEN OUT: LEAVE IT -/
set_option maxRecDepth 100000 in
theorem lifted (os : Os) (started : os.Started) (H : Type) (enc : TypeId × Value → H) :
    ReturnsInHanded {} Try.checked os 3 .any (Rows.fnChildNameSeparatesClassesSpec.pre6 enc Try.prog Try.f3 Rows.fnChildNameSeparatesClassesRow.domain false) (Rows.fnChildNameSeparatesClassesSpec.post enc Try.prog Try.f3 false true false false) := by
  refine returnsInHanded_of_change (C := Try.checked) own started (by kernel_rfl) Try.func3
    (ChangeSpec.witness6 (enc := enc) (C := Try.checked) false ⟨#[], #[.string ByteArray.empty, .string ByteArray.empty, .string ByteArray.empty, .string ByteArray.empty], []⟩ 8 (by kernel_rfl) (by kernel_rfl) (by kernel_rfl) (by kernel_rfl)) ?_
  intro W base args ds gs before hval0 hW hcnd _
  have hval : ∀ (j : Nat) t v, Try.f3.params[j]? = some t → args[j]? = some v → Value.okWide Try.prog W .any base t v := hval0
  have hW' := hW
  obtain ⟨p, q, hA0, hV, rfl, hfz, hnd⟩ := hW
  have hA : DataW.TrodAll enc Try.prog W 0 (fun _ => true) true Try.f3.params.toList args.toList ds p := hA0
  rw [Try.params3] at hA hval
  obtain ⟨v0, vs0, d0, ds0, p0, q0, hargs, rfl, rfl, h0, r0⟩ := trodAll_cons hA
  obtain ⟨v1, vs1, d1, ds1, p1, q1, rfl, rfl, rfl, h1, r1⟩ := trodAll_cons r0
  obtain ⟨v2, vs2, d2, ds2, p2, q2, rfl, rfl, rfl, h2, r2⟩ := trodAll_cons r1
  obtain ⟨v3, vs3, d3, ds3, p3, q3, rfl, rfl, rfl, h3, r3⟩ := trodAll_cons r2
  obtain ⟨rfl, rfl, rfl⟩ := trodAll_nil r3
  obtain rfl : args = #[v0, v1, v2, v3] := by cases args; simp_all
  obtain ⟨rfl, rfl⟩ := trodVars_none hV
  obtain ⟨a0, rfl, rfl, rfl, w0⟩ := open_string Try.underlying9 (hval 0 9 v0 rfl rfl) h0
  obtain ⟨a1, rfl, rfl, rfl, w1⟩ := open_string Try.underlying9 (hval 1 9 v1 rfl rfl) h1
  obtain ⟨a2, rfl, rfl, rfl, w2⟩ := open_string Try.underlying9 (hval 2 9 v2 rfl rfl) h2
  obtain ⟨a3, rfl, rfl, rfl, w3⟩ := open_string Try.underlying9 (hval 3 9 v3 rfl rfl) h3
  clear hA0 hval0
  simp only [List.append_nil] at hW'
  refine (walk a0 a1 a2 a3 w0 w1 w2 w3 W).mono fun e W' ⟨he, hg⟩ => ?_
  subst he
  exact ⟨_, rfl, post_of_same (pa := []) (pv := []) hW' (fun _ _ _ => (trodAll_cons_mk (shut_bool Try.underlying4 _) trodAll_mk0)) (fun sp _ => (trodAll_cons_mk (shut_string Try.underlying9 w0) (trodAll_cons_mk (shut_string Try.underlying9 w1) (trodAll_cons_mk (shut_string Try.underlying9 w2) (trodAll_cons_mk (shut_string Try.underlying9 w3) trodAll_mk0))))) (fun _ _ => rfl) rfl
    (hg.frame _) hg.2.1 (ok_one (by kernel_rfl) rfl (okWide_bool_mk Try.underlying4 _))⟩

theorem over : Rows.fnChildNameSeparatesClassesRow.holds Try.pinned (OpenSpec.ofChange Rows.fnChildNameSeparatesClassesSpec) :=
  OpenClaim.holds_of_wide 3 Try.f3 rfl rfl rfl rfl rfl rfl rfl ⟨rfl, rfl, rfl, rfl, rfl⟩ rfl rfl rfl rfl rfl (by kernel_rfl) Try.func3 (by kernel_rfl)
    (of_decide_eq_true (by kernel_rfl)) (by unfold Func.isWrapper; first | (rw [if_pos (by decide +kernel)]; kernel_rfl) | (rw [if_neg (by decide +kernel)]; exact ⟨rfl, rfl⟩))
    (fun os started H enc _ => lifted os started H enc)

/-- ████ THE STATEMENT ████ -/
theorem proved : Rows.FnChildNameSeparatesClassesSaid :=
  over
end Go.Proofs.Qxb6617422a.fnChildNameSeparatesClasses
