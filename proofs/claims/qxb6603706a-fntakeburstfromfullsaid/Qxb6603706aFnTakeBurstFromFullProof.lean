/-
  THE PROOF OF 'FnTakeBurstFromFull': the frame by the guide's tool, the walk by hand.
-/
import Derived.Test.Qxb6603706aRows
import Derived.WalkKit
import Derived.ProofKit
import Derived.OpenShut
import Derived.ShutString
import Derived.Test.Qxb6603706aTake
namespace Go.Proofs.Qxb6603706a.fnTakeBurstFromFull
open Go.ChangeShapes Go.WideShapes Go.ChangeAt Go.RowKit
open Go.ChangeMaps (open_string shut_string)
open Go.Proofs.Qxb6603706a
set_option linter.unusedVariables false      -- a walk need not use every 'w<i>' (that an integer argument fits its kind)

theorem own : ownKnob Try.prog.godebug = none := by kernel_rfl

/-! ### STEP 1: THE WALK: the Go text returns true. 'Grown w w'': the world has at most new blocks (Derived/RowKit3.lean). Part the cases AHEAD of 'go_enter' where a test parts the walk; take each callee by a contract of your own. -/
theorem hide {p : Prop} (h : p) : Hid p := h
theorem unhide {p : Prop} (h : Hid p) : p := h
/-- one admitted call at now, its bucket at G -/
theorem zz_step (iv room F L n G : Int) (w : World)
    (i1 : 1 ≤ iv) (i2 : iv ≤ 1152921504606846976) (r1 : 0 ≤ room) (r2 : room ≤ 1152921504606846976)
    (f1 : -3458764513820540928 ≤ F) (f2 : F ≤ 3458764513820540928) (l1 : -3458764513820540928 ≤ L) (l2 : L ≤ n) (n1 : -1152921504606846976 ≤ n) (n2 : n ≤ 1152921504606846976)
    (hG : (F ≤ n ∧ G = n) ∨ (n ≤ F ∧ G = F)) (hr : G - n ≤ room) :
    Calls Try.prog 9 #[.int .i64 iv, .int .i64 room, .int .i64 F, .int .i64 L, .int .i64 n] w fun e w' =>
      e = .returned (.tuple #[.bool true, .int .i64 (G + iv), .int .i64 n, .int .i64 0]) ∧ Grown w w' := by
  have hL : tkL L n = n := by unfold tkL; split <;> omega
  have hF : tkF F L n = G := by unfold tkF; rw [hL]; split <;> omega
  have c := zztake_yes iv room F L n w i1 i2 r1 r2 f1 f2 l1 (by omega) (by omega) (by omega) (by rw [hF, hL]; exact hr)
  rwa [hF, hL] at c
/-- one refused call at now, its bucket at F, n -/
theorem zz_stop (iv room F n wt : Int) (w : World)
    (i1 : 1 ≤ iv) (i2 : iv ≤ 1152921504606846976) (r1 : 0 ≤ room) (r2 : room ≤ 1152921504606846976)
    (f2 : F ≤ 3458764513820540928) (n1 : -1152921504606846976 ≤ n) (n2 : n ≤ 1152921504606846976)
    (hr : room < F - n) (hw : F - room - n = wt) :
    Calls Try.prog 9 #[.int .i64 iv, .int .i64 room, .int .i64 F, .int .i64 n, .int .i64 n] w fun e w' =>
      e = .returned (.tuple #[.bool false, .int .i64 F, .int .i64 n, .int .i64 wt]) ∧ Grown w w' := by
  have hL : tkL n n = n := by unfold tkL; split <;> omega
  have hF : tkF F n n = F := by unfold tkF; rw [hL]; split <;> omega
  have c := zztake_no iv room F n n w i1 i2 r1 r2 (by omega) f2 (by omega) (by omega) (by omega) (by omega) (by rw [hF, hL]; exact hr)
  rwa [hL, hw] at c
set_option maxRecDepth 100000 in
set_option maxHeartbeats 1000000 in
theorem walk (a0 : Int) (a1 : Int) (a2 : Int) (a3 : Int) (a4 : Int) (w0 : (Lit.int .i64 a0).wf = true) (w1 : (Lit.int .i64 a1).wf = true) (w2 : (Lit.int .i64 a2).wf = true) (w3 : (Lit.int .i64 a3).wf = true) (w4 : (Lit.int .i64 a4).wf = true) (w : World) :
    Calls Try.prog 5 #[.int .i64 a0, .int .i64 a1, .int .i64 a2, .int .i64 a3, .int .i64 a4] w fun e w' => e = .returned (.bool true) ∧ Grown w w' := by
  clear w0 w1 w2 w3 w4
  cases hr : rateB a0 a1
  · go_enter Try.func5, Try.ntmps5
    go_wp2_with (go_at_call 7; refine (rateOK_any _ _ _).mono ?_; rintro e w' ⟨rfl, rfl⟩)
    go_ret
    exact ⟨rfl, Grown.refl _⟩
  cases hf : inB a2
  · go_enter Try.func5, Try.ntmps5
    go_wp2_with (first | (go_at_call 7; refine (rateOK_any _ _ _).mono ?_; rintro e w' ⟨rfl, rfl⟩) | (go_at_call 8; refine (in_any _ _).mono ?_; rintro e w' ⟨rfl, rfl⟩))
    go_ret
    exact ⟨rfl, Grown.refl _⟩
  cases hl : inB a3
  · go_enter Try.func5, Try.ntmps5
    go_wp2_with (first | (go_at_call 7; refine (rateOK_any _ _ _).mono ?_; rintro e w' ⟨rfl, rfl⟩) | (go_at_call 8; refine (in_any _ _).mono ?_; rintro e w' ⟨rfl, rfl⟩))
    go_ret
    exact ⟨rfl, Grown.refl _⟩
  cases hn : inB a4
  · go_enter Try.func5, Try.ntmps5
    go_wp2_with (first | (go_at_call 7; refine (rateOK_any _ _ _).mono ?_; rintro e w' ⟨rfl, rfl⟩) | (go_at_call 8; refine (in_any _ _).mono ?_; rintro e w' ⟨rfl, rfl⟩))
    go_ret
    exact ⟨rfl, Grown.refl _⟩
  obtain ⟨i1, i2, r1, r2⟩ : 1 ≤ a0 ∧ a0 ≤ 1152921504606846976 ∧ 0 ≤ a1 ∧ a1 ≤ 1152921504606846976 := of_decide_eq_true hr
  obtain ⟨f1, f2⟩ : -1152921504606846976 ≤ a2 ∧ a2 ≤ 1152921504606846976 := of_decide_eq_true hf
  obtain ⟨l1, l2⟩ : -1152921504606846976 ≤ a3 ∧ a3 ≤ 1152921504606846976 := of_decide_eq_true hl
  obtain ⟨n1, n2⟩ : -1152921504606846976 ≤ a4 ∧ a4 ≤ 1152921504606846976 := of_decide_eq_true hn
  by_cases g1 : a4 < a2
  · go_enter Try.func5, Try.ntmps5
    go_wp2_with (first | (go_at_call 7; refine (rateOK_any _ _ _).mono ?_; rintro e w' ⟨rfl, rfl⟩) | (go_at_call 8; refine (in_any _ _).mono ?_; rintro e w' ⟨rfl, rfl⟩))
    go_ret
    exact ⟨rfl, Grown.refl _⟩
  by_cases g2 : a4 < a3
  · go_enter Try.func5, Try.ntmps5
    go_wp2_with (first | (go_at_call 7; refine (rateOK_any _ _ _).mono ?_; rintro e w' ⟨rfl, rfl⟩) | (go_at_call 8; refine (in_any _ _).mono ?_; rintro e w' ⟨rfl, rfl⟩))
    go_ret
    exact ⟨rfl, Grown.refl _⟩
  have q0 : 0 ≤ a1 / a0 := Int.ediv_nonneg r1 (by omega)
  have q1 : a1 / a0 * a0 ≤ a1 := Int.ediv_mul_le a1 (by omega)
  have q2 : a1 < (a1 / a0 + 1) * a0 := Int.lt_ediv_add_one_mul_self a1 (by omega)
  have q3 : (a1 / a0 + 1) * a0 = a1 / a0 * a0 + a0 := by rw [Int.add_mul, Int.one_mul]
  have q4 : a1 % a0 = a1 - a1 / a0 * a0 := by have := Int.emod_add_mul_ediv a1 a0; rw [Int.mul_comm] at this; omega
  have q5 : (a1 / a0 + 1) * a0 ≤ 2305843009213693952 := by omega
  have q6 : a1 / a0 ≤ 1152921504606846976 := by
    have := Int.mul_le_mul_of_nonneg_left i1 q0
    omega
  have Q3 := hide q3
  have Q4 := hide q4
  clear q3 q4
  by_cases g3 : 65536 < a1 / a0
  · go_enter Try.func5, Try.ntmps5
    go_wp2_with (first | (go_at_call 7; refine (rateOK_any _ _ _).mono ?_; rintro e w' ⟨rfl, rfl⟩) | (go_at_call 8; refine (in_any _ _).mono ?_; rintro e w' ⟨rfl, rfl⟩))
    go_ret
    exact ⟨rfl, Grown.refl _⟩
  go_enter Try.func5, Try.ntmps5
  go_wp2_with (first | (go_at_call 7; refine (rateOK_any _ _ _).mono ?_; rintro e w' ⟨rfl, rfl⟩) | (go_at_call 8; refine (in_any _ _).mono ?_; rintro e w' ⟨rfl, rfl⟩))
  obtain ⟨q, hq⟩ : ∃ q : Nat, a1 / a0 = q := ⟨(a1 / a0).toNat, by omega⟩
  have hq1 : a1 / a0 ≤ q := by omega
  have hq2 : q ≤ a1 / a0 := by omega
  clear hq
  go_loopw [12, 13, 14] (fun f l i wr => ∃ (k : Nat) (F L : Int), k ≤ q + 1 ∧ f = .int .i64 F ∧ l = .int .i64 L ∧ i = .int .i64 k ∧ ((k = 0 ∧ F = a2 ∧ L = a3) ∨ (0 < k ∧ F = a4 + k * a0 ∧ L = a4)) ∧ Grown w' wr) (fun _ _ i _ => q + 1 - (intOf i).toNat)
  case atStart => exact ⟨0, a2, a3, by omega, rfl, rfl, rfl, Or.inl ⟨rfl, rfl, rfl⟩, Grown.refl _⟩
  case round =>
    obtain ⟨k, F, L, hk, rfl, rfl, rfl, hFL, hg⟩ := hrel
    by_cases hlt : k < q + 1
    · have hk2 : (k : Int) * a0 ≤ a1 / a0 * a0 := Int.mul_le_mul_of_nonneg_right (by omega) (by omega)
      have hk3 : 0 ≤ (k : Int) * a0 := Int.mul_nonneg (by omega) (by omega)
      have C := hide (fun w => zz_step a0 a1 F L a4 (a4 + k * a0) w i1 i2 r1 r2 (by omega) (by omega) (by omega) (by omega) n1 n2 (by rcases hFL with ⟨rfl, rfl, rfl⟩ | ⟨h1, rfl, rfl⟩ <;> omega) (by omega))
      have HL := hide hFL
      clear hFL hk2 hk3
      have hlt2 : (k : Int) < a1 / a0 + 1 := by omega
      go_wp2_with fail
      refine (unhide C _).mono ?_
      rintro e w2 ⟨rfl, hg2⟩
      go_wp2_with fail
      go_roundw
      case rel => exact ⟨k + 1, _, _, by omega, rfl, rfl, by go_num, Or.inr ⟨by omega, by rw [Int.natCast_add, Int.add_mul]; simp; omega, rfl⟩, Grown.trans hg hg2⟩
      case measure => simp [intOf]; omega
    · have hkq : (k : Int) = a1 / a0 + 1 := by omega
      obtain ⟨rfl, hL⟩ : F = a4 + (a1 / a0 + 1) * a0 ∧ a4 = L := by
        rcases hFL with ⟨h1, _, _⟩ | ⟨h1, h2, h3⟩
        · omega
        · exact ⟨by rw [h2, hkq], h3.symm⟩
      subst hL
      have hlt2 : ¬ (k : Int) < a1 / a0 + 1 := by omega
      have e3 := unhide Q3
      have e4 := unhide Q4
      have m1 : 0 ≤ a1 % a0 := Int.emod_nonneg _ (by omega)
      have m2 : a1 % a0 < a0 := Int.emod_lt_of_pos _ (by omega)
      have C := hide (fun w => zz_stop a0 a1 (a4 + (a1 / a0 + 1) * a0) a4 (a0 - a1 % a0) w i1 i2 r1 r2 (by omega) n1 n2 (by omega) (by omega))
      clear e3 e4 hkq hFL hlt
      go_wp2_with fail
      refine (unhide C _).mono ?_
      rintro e w2 ⟨rfl, hg2⟩
      go_wp2_with fail
      refine (unhide C _).mono ?_
      rintro e w3 ⟨rfl, hg3⟩
      go_wp2_with fail
      go_ret
      exact ⟨rfl, Grown.trans (Grown.trans hg hg2) hg3⟩

/-! ### THE ROW's STEP: WRITTEN OUT: LEAVE IT -/
set_option maxRecDepth 100000 in
theorem lifted (os : Os) (started : os.Started) (H : Type) (enc : TypeId × Value → H) :
    ReturnsInHanded {} Try.checked os 5 .any (Rows.fnTakeBurstFromFullSpec.pre6 enc Try.prog Try.f5 Rows.fnTakeBurstFromFullRow.domain false) (Rows.fnTakeBurstFromFullSpec.post enc Try.prog Try.f5 false true false false) := by
  refine returnsInHanded_of_change (C := Try.checked) own started (by kernel_rfl) Try.func5
    (ChangeSpec.witness6 (enc := enc) (C := Try.checked) false ⟨#[], #[.int .i64 0, .int .i64 0, .int .i64 0, .int .i64 0, .int .i64 0], []⟩ 8 (by kernel_rfl) (by kernel_rfl) (by kernel_rfl) (by kernel_rfl)) ?_
  intro W base args ds gs before hval0 hW hcnd _
  have hval : ∀ (j : Nat) t v, Try.f5.params[j]? = some t → args[j]? = some v → Value.okWide Try.prog W .any base t v := hval0
  have hW' := hW
  obtain ⟨p, q, hA0, hV, rfl, hfz, hnd⟩ := hW
  have hA : DataW.TrodAll enc Try.prog W 0 (fun _ => true) true Try.f5.params.toList args.toList ds p := hA0
  rw [Try.params5] at hA hval
  obtain ⟨v0, vs0, d0, ds0, p0, q0, hargs, rfl, rfl, h0, r0⟩ := trodAll_cons hA
  obtain ⟨v1, vs1, d1, ds1, p1, q1, rfl, rfl, rfl, h1, r1⟩ := trodAll_cons r0
  obtain ⟨v2, vs2, d2, ds2, p2, q2, rfl, rfl, rfl, h2, r2⟩ := trodAll_cons r1
  obtain ⟨v3, vs3, d3, ds3, p3, q3, rfl, rfl, rfl, h3, r3⟩ := trodAll_cons r2
  obtain ⟨v4, vs4, d4, ds4, p4, q4, rfl, rfl, rfl, h4, r4⟩ := trodAll_cons r3
  obtain ⟨rfl, rfl, rfl⟩ := trodAll_nil r4
  obtain rfl : args = #[v0, v1, v2, v3, v4] := by cases args; simp_all
  obtain ⟨rfl, rfl⟩ := trodVars_none hV
  obtain ⟨a0, rfl, rfl, rfl, w0⟩ := open_int Try.underlying2 (hval 0 2 v0 rfl rfl) h0
  obtain ⟨a1, rfl, rfl, rfl, w1⟩ := open_int Try.underlying2 (hval 1 2 v1 rfl rfl) h1
  obtain ⟨a2, rfl, rfl, rfl, w2⟩ := open_int Try.underlying2 (hval 2 2 v2 rfl rfl) h2
  obtain ⟨a3, rfl, rfl, rfl, w3⟩ := open_int Try.underlying2 (hval 3 2 v3 rfl rfl) h3
  obtain ⟨a4, rfl, rfl, rfl, w4⟩ := open_int Try.underlying2 (hval 4 2 v4 rfl rfl) h4
  clear hA0 hval0
  simp only [List.append_nil] at hW'
  refine (walk a0 a1 a2 a3 a4 w0 w1 w2 w3 w4 W).mono fun e W' ⟨he, hg⟩ => ?_
  subst he
  exact ⟨_, rfl, post_of_same (pa := []) (pv := []) hW' (fun _ _ _ => (trodAll_cons_mk (shut_bool Try.underlying4 _) trodAll_mk0)) (fun sp _ => (trodAll_cons_mk (shut_int Try.underlying2 w0) (trodAll_cons_mk (shut_int Try.underlying2 w1) (trodAll_cons_mk (shut_int Try.underlying2 w2) (trodAll_cons_mk (shut_int Try.underlying2 w3) (trodAll_cons_mk (shut_int Try.underlying2 w4) trodAll_mk0)))))) (fun _ _ => rfl) rfl
    (hg.frame _) hg.2.1 (ok_one (by kernel_rfl) rfl (okWide_bool_mk Try.underlying4 _))⟩

theorem over : Rows.fnTakeBurstFromFullRow.holds Try.pinned (OpenSpec.ofChange Rows.fnTakeBurstFromFullSpec) :=
  OpenClaim.holds_of_wide 5 Try.f5 rfl rfl rfl rfl rfl rfl rfl ⟨rfl, rfl, rfl, rfl, rfl⟩ rfl rfl rfl rfl rfl (by kernel_rfl) Try.func5 (by kernel_rfl)
    (of_decide_eq_true (by kernel_rfl)) (by unfold Func.isWrapper; first | (rw [if_pos (by decide +kernel)]; kernel_rfl) | (rw [if_neg (by decide +kernel)]; exact ⟨rfl, rfl⟩))
    (fun os started H enc _ => lifted os started H enc)

/-- ████ THE STATEMENT ████ -/
theorem proved : Rows.FnTakeBurstFromFullSaid :=
  over
end Go.Proofs.Qxb6603706a.fnTakeBurstFromFull
