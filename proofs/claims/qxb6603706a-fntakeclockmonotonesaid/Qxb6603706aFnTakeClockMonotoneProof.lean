/-
  THE PROOF OF 'FnTakeClockMonotone': the frame by the guide's tool, the walk by hand.
-/
import Derived.Test.Qxb6603706aRows
import Derived.WalkKit
import Derived.ProofKit
import Derived.OpenShut
import Derived.ShutString
import Derived.Test.Qxb6603706aTake
namespace Go.Proofs.Qxb6603706a.fnTakeClockMonotone
open Go.ChangeShapes Go.WideShapes Go.ChangeAt Go.RowKit
open Go.ChangeMaps (open_string shut_string)
open Go.Proofs.Qxb6603706a
set_option linter.unusedVariables false      -- a walk need not use every 'w<i>' (that an integer argument fits its kind)

theorem own : ownKnob Try.prog.godebug = none := by kernel_rfl

/-! ### STEP 1: THE WALK: the Go text returns true. 'Grown w w'': the world has at most new blocks (Derived/RowKit3.lean). Part the cases AHEAD of 'go_enter' where a test parts the walk; take each callee by a contract of your own. -/
theorem hide {p : Prop} (h : p) : Hid p := h
theorem unhide {p : Prop} (h : Hid p) : p := h
/-- zzb1Max -/
theorem max_any (a b : Int) (w : World) : Calls Try.prog 23 #[.int .i64 a, .int .i64 b] w fun e w' => e = .returned (.int .i64 (tkL a b)) ∧ w' = w := by
  by_cases h : b < a
  · have e : tkL a b = a := by unfold tkL; split <;> omega
    rw [e]
    go_enter Try.func23, Try.ntmps23
    go_wp2
    go_ret
    exact ⟨rfl, rfl⟩
  · have e : tkL a b = b := by unfold tkL; split <;> omega
    rw [e]
    go_enter Try.func23, Try.ntmps23
    go_wp2
    go_ret
    exact ⟨rfl, rfl⟩
/-- zzb1After, where the promise holds -/
theorem after_any (l n gf : Int) (h : tkL l n ≤ gf) (w : World) : Calls Try.prog 10 #[.int .i64 l, .int .i64 n, .int .i64 gf, .int .i64 (tkL l n)] w fun e w' => e = .returned (.bool true) ∧ w' = w := by
  go_enter Try.func10, Try.ntmps10
  go_wp2_with (go_at_call 23; refine (max_any _ _ _).mono ?_; rintro e w' ⟨rfl, rfl⟩)
  go_ret
  exact ⟨ret_bool (by simp), rfl⟩
theorem tkL_le (l n : Int) : l ≤ tkL l n ∧ n ≤ tkL l n ∧ (tkL l n = l ∨ tkL l n = n) := by unfold tkL; split <;> omega
theorem tkF_le (f l n : Int) : tkL l n ≤ tkF f l n ∧ f ≤ tkF f l n ∧ (tkF f l n = f ∨ tkF f l n = tkL l n) := by unfold tkF; split <;> omega
set_option maxRecDepth 100000 in
set_option maxHeartbeats 1000000 in
theorem walk (a0 : Int) (a1 : Int) (a2 : Int) (a3 : Int) (a4 : Int) (a5 : Int) (w0 : (Lit.int .i64 a0).wf = true) (w1 : (Lit.int .i64 a1).wf = true) (w2 : (Lit.int .i64 a2).wf = true) (w3 : (Lit.int .i64 a3).wf = true) (w4 : (Lit.int .i64 a4).wf = true) (w5 : (Lit.int .i64 a5).wf = true) (w : World) :
    Calls Try.prog 3 #[.int .i64 a0, .int .i64 a1, .int .i64 a2, .int .i64 a3, .int .i64 a4, .int .i64 a5] w fun e w' => e = .returned (.bool true) ∧ Grown w w' := by
  clear w0 w1 w2 w3 w4 w5
  cases hr : rateB a0 a1
  · go_enter Try.func3, Try.ntmps3
    go_wp2_with (go_at_call 7; refine (rateOK_any _ _ _).mono ?_; rintro e w' ⟨rfl, rfl⟩)
    go_ret
    exact ⟨rfl, Grown.refl _⟩
  cases hf : inB a2
  · go_enter Try.func3, Try.ntmps3
    go_wp2_with (first | (go_at_call 7; refine (rateOK_any _ _ _).mono ?_; rintro e w' ⟨rfl, rfl⟩) | (go_at_call 8; refine (in_any _ _).mono ?_; rintro e w' ⟨rfl, rfl⟩))
    go_ret
    exact ⟨rfl, Grown.refl _⟩
  cases hl : inB a3
  · go_enter Try.func3, Try.ntmps3
    go_wp2_with (first | (go_at_call 7; refine (rateOK_any _ _ _).mono ?_; rintro e w' ⟨rfl, rfl⟩) | (go_at_call 8; refine (in_any _ _).mono ?_; rintro e w' ⟨rfl, rfl⟩))
    go_ret
    exact ⟨rfl, Grown.refl _⟩
  cases hn : inB a4
  · go_enter Try.func3, Try.ntmps3
    go_wp2_with (first | (go_at_call 7; refine (rateOK_any _ _ _).mono ?_; rintro e w' ⟨rfl, rfl⟩) | (go_at_call 8; refine (in_any _ _).mono ?_; rintro e w' ⟨rfl, rfl⟩))
    go_ret
    exact ⟨rfl, Grown.refl _⟩
  cases hm : inB a5
  · go_enter Try.func3, Try.ntmps3
    go_wp2_with (first | (go_at_call 7; refine (rateOK_any _ _ _).mono ?_; rintro e w' ⟨rfl, rfl⟩) | (go_at_call 8; refine (in_any _ _).mono ?_; rintro e w' ⟨rfl, rfl⟩))
    go_ret
    exact ⟨rfl, Grown.refl _⟩
  by_cases g1 : a5 < a4
  · go_enter Try.func3, Try.ntmps3
    go_wp2_with (first | (go_at_call 7; refine (rateOK_any _ _ _).mono ?_; rintro e w' ⟨rfl, rfl⟩) | (go_at_call 8; refine (in_any _ _).mono ?_; rintro e w' ⟨rfl, rfl⟩))
    go_ret
    exact ⟨rfl, Grown.refl _⟩
  obtain ⟨i1, i2, r1, r2⟩ : 1 ≤ a0 ∧ a0 ≤ 1152921504606846976 ∧ 0 ≤ a1 ∧ a1 ≤ 1152921504606846976 := of_decide_eq_true hr
  obtain ⟨f1, f2⟩ : -1152921504606846976 ≤ a2 ∧ a2 ≤ 1152921504606846976 := of_decide_eq_true hf
  obtain ⟨l1, l2⟩ : -1152921504606846976 ≤ a3 ∧ a3 ≤ 1152921504606846976 := of_decide_eq_true hl
  obtain ⟨n1, n2⟩ : -1152921504606846976 ≤ a4 ∧ a4 ≤ 1152921504606846976 := of_decide_eq_true hn
  obtain ⟨m1, m2⟩ : -1152921504606846976 ≤ a5 ∧ a5 ≤ 1152921504606846976 := of_decide_eq_true hm
  have u1 := tkL_le a3 a4
  have u2 := tkL_le a3 a5
  have v1 := tkF_le a2 a3 a4
  have v2 := tkF_le a2 a3 a5
  by_cases h1 : tkF a2 a3 a4 - tkL a3 a4 ≤ a1
  · have C1 := hide (fun w => zztake_yes a0 a1 a2 a3 a4 w i1 i2 r1 r2 (by omega) (by omega) (by omega) (by omega) (by omega) (by omega) h1)
    have C2 := hide (fun w => zztake_yes a0 a1 a2 a3 a5 w i1 i2 r1 r2 (by omega) (by omega) (by omega) (by omega) (by omega) (by omega) (by omega))
    have D1 := hide (fun w => after_any a3 a4 (tkF a2 a3 a4 + a0) (by omega) w)
    have D2 := hide (fun w => after_any a3 a5 (tkF a2 a3 a5 + a0) (by omega) w)
    clear u1 u2 v1 v2 h1
    go_enter Try.func3, Try.ntmps3
    go_wp2_with (first | (go_at_call 7; refine (rateOK_any _ _ _).mono ?_; rintro e w' ⟨rfl, rfl⟩) | (go_at_call 8; refine (in_any _ _).mono ?_; rintro e w' ⟨rfl, rfl⟩))
    refine (unhide C1 _).mono ?_
    rintro e w1 ⟨rfl, hg1⟩
    go_wp2_with fail
    refine (unhide C2 _).mono ?_
    rintro e w2 ⟨rfl, hg2⟩
    go_wp2_with fail
    refine (unhide D1 _).mono ?_
    rintro e w3 ⟨rfl, rfl⟩
    go_wp2_with fail
    refine (unhide D2 _).mono ?_
    rintro e w3 ⟨rfl, rfl⟩
    go_wp2_with fail
    go_ret
    exact ⟨rfl, Grown.trans hg1 hg2⟩
  · by_cases h2 : tkF a2 a3 a5 - tkL a3 a5 ≤ a1
    · have C1 := hide (fun w => zztake_no a0 a1 a2 a3 a4 w i1 i2 r1 r2 (by omega) (by omega) (by omega) (by omega) (by omega) (by omega) (by omega))
      have C2 := hide (fun w => zztake_yes a0 a1 a2 a3 a5 w i1 i2 r1 r2 (by omega) (by omega) (by omega) (by omega) (by omega) (by omega) h2)
      have D1 := hide (fun w => after_any a3 a4 a2 (by omega) w)
      have D2 := hide (fun w => after_any a3 a5 (tkF a2 a3 a5 + a0) (by omega) w)
      have k1 : 1 ≤ a2 - a1 - a4 := by omega
      have k2 : a2 - a1 - a4 ≤ a5 - a4 := by omega
      clear u1 u2 v1 v2 h1 h2
      go_enter Try.func3, Try.ntmps3
      go_wp2_with (first | (go_at_call 7; refine (rateOK_any _ _ _).mono ?_; rintro e w' ⟨rfl, rfl⟩) | (go_at_call 8; refine (in_any _ _).mono ?_; rintro e w' ⟨rfl, rfl⟩))
      refine (unhide C1 _).mono ?_
      rintro e w1 ⟨rfl, hg1⟩
      go_wp2_with fail
      refine (unhide C2 _).mono ?_
      rintro e w2 ⟨rfl, hg2⟩
      go_wp2_with fail
      refine (unhide D1 _).mono ?_
      rintro e w3 ⟨rfl, rfl⟩
      go_wp2_with fail
      refine (unhide D2 _).mono ?_
      rintro e w3 ⟨rfl, rfl⟩
      go_wp2_with fail
      go_ret
      exact ⟨ret_bool (by simp), Grown.trans hg1 hg2⟩
    · have C1 := hide (fun w => zztake_no a0 a1 a2 a3 a4 w i1 i2 r1 r2 (by omega) (by omega) (by omega) (by omega) (by omega) (by omega) (by omega))
      have C2 := hide (fun w => zztake_no a0 a1 a2 a3 a5 w i1 i2 r1 r2 (by omega) (by omega) (by omega) (by omega) (by omega) (by omega) (by omega))
      have D1 := hide (fun w => after_any a3 a4 a2 (by omega) w)
      have D2 := hide (fun w => after_any a3 a5 a2 (by omega) w)
      have k1 : 1 ≤ a2 - a1 - a4 := by omega
      have k2 : a5 - a4 < a2 - a1 - a4 := by omega
      have k3 := hide (show a2 - a1 - a5 = a2 - a1 - a4 - (a5 - a4) by omega)
      clear u1 u2 v1 v2 h1 h2
      go_enter Try.func3, Try.ntmps3
      go_wp2_with (first | (go_at_call 7; refine (rateOK_any _ _ _).mono ?_; rintro e w' ⟨rfl, rfl⟩) | (go_at_call 8; refine (in_any _ _).mono ?_; rintro e w' ⟨rfl, rfl⟩))
      refine (unhide C1 _).mono ?_
      rintro e w1 ⟨rfl, hg1⟩
      go_wp2_with fail
      refine (unhide C2 _).mono ?_
      rintro e w2 ⟨rfl, hg2⟩
      go_wp2_with fail
      refine (unhide D1 _).mono ?_
      rintro e w3 ⟨rfl, rfl⟩
      go_wp2_with fail
      refine (unhide D2 _).mono ?_
      rintro e w3 ⟨rfl, rfl⟩
      go_wp2_with fail
      all_goals (go_ret; exact ⟨ret_bool (by simp), Grown.trans hg1 hg2⟩)

/-! ### THE ROW's STEP: WRITTEN OUT: LEAVE IT -/
set_option maxRecDepth 100000 in
theorem lifted (os : Os) (started : os.Started) (H : Type) (enc : TypeId × Value → H) :
    ReturnsInHanded {} Try.checked os 3 .any (Rows.fnTakeClockMonotoneSpec.pre6 enc Try.prog Try.f3 Rows.fnTakeClockMonotoneRow.domain false) (Rows.fnTakeClockMonotoneSpec.post enc Try.prog Try.f3 false true false false) := by
  refine returnsInHanded_of_change (C := Try.checked) own started (by kernel_rfl) Try.func3
    (ChangeSpec.witness6 (enc := enc) (C := Try.checked) false ⟨#[], #[.int .i64 0, .int .i64 0, .int .i64 0, .int .i64 0, .int .i64 0, .int .i64 0], []⟩ 8 (by kernel_rfl) (by kernel_rfl) (by kernel_rfl) (by kernel_rfl)) ?_
  intro W base args ds gs before hval0 hW hcnd _
  have hval : ∀ (j : Nat) t v, Try.f3.params[j]? = some t → args[j]? = some v → Value.okWide Try.prog W .any base t v := hval0
  have hW' := hW
  obtain ⟨p, q, hA0, hV, rfl, hfz, hnd⟩ := hW
  have hA : DataW.TrodAll enc Try.prog W 0 (fun _ => true) true Try.f3.params.toList args.toList ds p := hA0
  rw [Try.params3] at hA hval
  obtain ⟨v0, vs0, d0, ds0, p0, q0, hargs, rfl, rfl, h0, r0⟩ := trodAll_cons hA
  obtain ⟨v1, vs1, d1, ds1, p1, q1, rfl, rfl, rfl, h1, r1⟩ := trodAll_cons r0
  obtain ⟨v2, vs2, d2, ds2, p2, q2, rfl, rfl, rfl, h2, r2⟩ := trodAll_cons r1
  obtain ⟨v3, vs3, d3, ds3, p3, q3, rfl, rfl, rfl, h3, r3⟩ := trodAll_cons r2
  obtain ⟨v4, vs4, d4, ds4, p4, q4, rfl, rfl, rfl, h4, r4⟩ := trodAll_cons r3
  obtain ⟨v5, vs5, d5, ds5, p5, q5, rfl, rfl, rfl, h5, r5⟩ := trodAll_cons r4
  obtain ⟨rfl, rfl, rfl⟩ := trodAll_nil r5
  obtain rfl : args = #[v0, v1, v2, v3, v4, v5] := by cases args; simp_all
  obtain ⟨rfl, rfl⟩ := trodVars_none hV
  obtain ⟨a0, rfl, rfl, rfl, w0⟩ := open_int Try.underlying2 (hval 0 2 v0 rfl rfl) h0
  obtain ⟨a1, rfl, rfl, rfl, w1⟩ := open_int Try.underlying2 (hval 1 2 v1 rfl rfl) h1
  obtain ⟨a2, rfl, rfl, rfl, w2⟩ := open_int Try.underlying2 (hval 2 2 v2 rfl rfl) h2
  obtain ⟨a3, rfl, rfl, rfl, w3⟩ := open_int Try.underlying2 (hval 3 2 v3 rfl rfl) h3
  obtain ⟨a4, rfl, rfl, rfl, w4⟩ := open_int Try.underlying2 (hval 4 2 v4 rfl rfl) h4
  obtain ⟨a5, rfl, rfl, rfl, w5⟩ := open_int Try.underlying2 (hval 5 2 v5 rfl rfl) h5
  clear hA0 hval0
  simp only [List.append_nil] at hW'
  refine (walk a0 a1 a2 a3 a4 a5 w0 w1 w2 w3 w4 w5 W).mono fun e W' ⟨he, hg⟩ => ?_
  subst he
  exact ⟨_, rfl, post_of_same (pa := []) (pv := []) hW' (fun _ _ _ => (trodAll_cons_mk (shut_bool Try.underlying4 _) trodAll_mk0)) (fun sp _ => (trodAll_cons_mk (shut_int Try.underlying2 w0) (trodAll_cons_mk (shut_int Try.underlying2 w1) (trodAll_cons_mk (shut_int Try.underlying2 w2) (trodAll_cons_mk (shut_int Try.underlying2 w3) (trodAll_cons_mk (shut_int Try.underlying2 w4) (trodAll_cons_mk (shut_int Try.underlying2 w5) trodAll_mk0))))))) (fun _ _ => rfl) rfl
    (hg.frame _) hg.2.1 (ok_one (by kernel_rfl) rfl (okWide_bool_mk Try.underlying4 _))⟩

theorem over : Rows.fnTakeClockMonotoneRow.holds Try.pinned (OpenSpec.ofChange Rows.fnTakeClockMonotoneSpec) :=
  OpenClaim.holds_of_wide 3 Try.f3 rfl rfl rfl rfl rfl rfl rfl ⟨rfl, rfl, rfl, rfl, rfl⟩ rfl rfl rfl rfl rfl (by kernel_rfl) Try.func3 (by kernel_rfl)
    (of_decide_eq_true (by kernel_rfl)) (by unfold Func.isWrapper; first | (rw [if_pos (by decide +kernel)]; kernel_rfl) | (rw [if_neg (by decide +kernel)]; exact ⟨rfl, rfl⟩))
    (fun os started H enc _ => lifted os started H enc)

/-- ████ THE STATEMENT ████ -/
theorem proved : Rows.FnTakeClockMonotoneSaid :=
  over
end Go.Proofs.Qxb6603706a.fnTakeClockMonotone
