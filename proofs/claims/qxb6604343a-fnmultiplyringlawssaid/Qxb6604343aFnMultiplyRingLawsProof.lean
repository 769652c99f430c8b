/-
  THE PROOF OF 'FnMultiplyRingLaws': the frame by the guide's tool, the walk by hand.
-/
import Derived.Test.Qxb6604343aRows
import Derived.WalkKit
import Derived.ProofKit
import Derived.OpenShut
import Derived.ShutString
import Derived.Test.Qxb6604343aMul
namespace Go.Proofs.Qxb6604343a.fnMultiplyRingLaws
open Go.ChangeShapes Go.WideShapes Go.ChangeAt Go.RowKit
open Go.ChangeMaps (open_string shut_string)
open Poly (W mul rev gf)
set_option linter.unusedVariables false      -- a walk need not use every 'w<i>' (that an integer argument fits its kind)

theorem own : ownKnob Try.prog.godebug = none := by kernel_rfl

/-! ### STEP 1: THE WALK: the Go text returns true. 'Grown w w'': the world has at most new blocks (Derived/RowKit3.lean). Part the cases AHEAD of 'go_enter' where a test parts the walk; take each callee by a contract of your own. -/
theorem hide {p : Prop} (h : p) : Hid p := h
theorem unhide {p : Prop} (h : Hid p) : p := h
theorem zz_to (a b c : W) (h : mul a b = c) (w : World) : Calls Try.prog 9 #[.int .u32 (a.toNat : Int), .int .u32 (b.toNat : Int)] w fun e w' => e = .returned (.int .u32 (c.toNat : Int)) ∧ w' = w := by
  have := zzmultiply_any a b w
  rwa [h] at this
theorem zz_r1 (a : W) (w : World) : Calls Try.prog 9 #[.int .u32 (a.toNat : Int), .int .u32 2147483648] w fun e w' => e = .returned (.int .u32 (a.toNat : Int)) ∧ w' = w :=
  zz_to a Poly.e0 a (Poly.mul_e0 a) w
theorem zz_l1 (a : W) (w : World) : Calls Try.prog 9 #[.int .u32 2147483648, .int .u32 (a.toNat : Int)] w fun e w' => e = .returned (.int .u32 (a.toNat : Int)) ∧ w' = w :=
  zz_to Poly.e0 a a (Poly.e0_mul a) w
theorem zz_31 (w : World) : Calls Try.prog 9 #[.int .u32 1, .int .u32 1073741824] w fun e w' => e = .returned (.int .u32 2197175160) ∧ w' = w :=
  zz_to 1#32 0x40000000#32 0x82F63B78#32 Poly.mul_x31 w
theorem zz_add (a b c : W) (w : World) : Calls Try.prog 9 #[.int .u32 (a.toNat : Int), .int .u32 (bits .xor .u32 (b.toNat : Int) (c.toNat : Int))] w fun e w' => e = .returned (.int .u32 (bits .xor .u32 ((mul a b).toNat : Int) ((mul a c).toNat : Int))) ∧ w' = w := by
  rw [w_xor, w_xor]
  exact zz_to a (b ^^^ c) _ (Poly.mul_add a b c) w
set_option maxRecDepth 100000 in
set_option maxHeartbeats 1000000 in
theorem walk (a0 : Int) (a1 : Int) (a2 : Int) (w0 : (Lit.int .u32 a0).wf = true) (w1 : (Lit.int .u32 a1).wf = true) (w2 : (Lit.int .u32 a2).wf = true) (w : World) :
    Calls Try.prog 4 #[.int .u32 a0, .int .u32 a1, .int .u32 a2] w fun e w' => e = .returned (.bool true) ∧ Grown w w' := by
  obtain ⟨a, rfl⟩ := word_of w0
  obtain ⟨b, rfl⟩ := word_of w1
  obtain ⟨c, rfl⟩ := word_of w2
  clear w0 w1 w2
  go_enter Try.func4, Try.ntmps4
  go_wp2_with fail
  refine (zzmultiply_any a b _).mono ?_
  rintro e w' ⟨rfl, rfl⟩
  go_wp2_with fail
  refine (zzmultiply_any b c _).mono ?_
  rintro e w' ⟨rfl, rfl⟩
  go_wp2_with fail
  refine (zzmultiply_any a c _).mono ?_
  rintro e w' ⟨rfl, rfl⟩
  go_wp2_with fail
  refine (zz_r1 a _).mono ?_
  rintro e w' ⟨rfl, rfl⟩
  go_wp2_with fail
  refine (zz_l1 a _).mono ?_
  rintro e w' ⟨rfl, rfl⟩
  go_wp2_with fail
  refine (zz_31 _).mono ?_
  rintro e w' ⟨rfl, rfl⟩
  go_wp2_with fail
  refine (zz_to b a (mul a b) (Poly.mul_comm b a) _).mono ?_
  rintro e w' ⟨rfl, rfl⟩
  go_wp2_with fail
  refine (zzmultiply_any (mul a b) c _).mono ?_
  rintro e w' ⟨rfl, rfl⟩
  go_wp2_with fail
  refine (zz_to a (mul b c) (mul (mul a b) c) (Poly.mul_assoc a b c).symm _).mono ?_
  rintro e w' ⟨rfl, rfl⟩
  go_wp2_with fail
  refine (zz_add a b c _).mono ?_
  rintro e w' ⟨rfl, rfl⟩
  go_wp2_with fail
  go_ret
  exact ⟨rfl, Grown.refl _⟩

/-! ### THE ROW's STEP: WRITTEN OUT: LEAVE IT -/
set_option maxRecDepth 100000 in
theorem lifted (os : Os) (started : os.Started) (H : Type) (enc : TypeId × Value → H) :
    ReturnsInHanded {} Try.checked os 4 .any (Rows.fnMultiplyRingLawsSpec.pre6 enc Try.prog Try.f4 Rows.fnMultiplyRingLawsRow.domain false) (Rows.fnMultiplyRingLawsSpec.post enc Try.prog Try.f4 false true false false) := by
  refine returnsInHanded_of_change (C := Try.checked) own started (by kernel_rfl) Try.func4
    (ChangeSpec.witness6 (enc := enc) (C := Try.checked) false ⟨#[], #[.int .u32 0, .int .u32 0, .int .u32 0], []⟩ 8 (by kernel_rfl) (by kernel_rfl) (by kernel_rfl) (by kernel_rfl)) ?_
  intro W base args ds gs before hval0 hW hcnd _
  have hval : ∀ (j : Nat) t v, Try.f4.params[j]? = some t → args[j]? = some v → Value.okWide Try.prog W .any base t v := hval0
  have hW' := hW
  obtain ⟨p, q, hA0, hV, rfl, hfz, hnd⟩ := hW
  have hA : DataW.TrodAll enc Try.prog W 0 (fun _ => true) true Try.f4.params.toList args.toList ds p := hA0
  rw [Try.params4] at hA hval
  obtain ⟨v0, vs0, d0, ds0, p0, q0, hargs, rfl, rfl, h0, r0⟩ := trodAll_cons hA
  obtain ⟨v1, vs1, d1, ds1, p1, q1, rfl, rfl, rfl, h1, r1⟩ := trodAll_cons r0
  obtain ⟨v2, vs2, d2, ds2, p2, q2, rfl, rfl, rfl, h2, r2⟩ := trodAll_cons r1
  obtain ⟨rfl, rfl, rfl⟩ := trodAll_nil r2
  obtain rfl : args = #[v0, v1, v2] := by cases args; simp_all
  obtain ⟨rfl, rfl⟩ := trodVars_none hV
  obtain ⟨a0, rfl, rfl, rfl, w0⟩ := open_int Try.underlying22 (hval 0 22 v0 rfl rfl) h0
  obtain ⟨a1, rfl, rfl, rfl, w1⟩ := open_int Try.underlying22 (hval 1 22 v1 rfl rfl) h1
  obtain ⟨a2, rfl, rfl, rfl, w2⟩ := open_int Try.underlying22 (hval 2 22 v2 rfl rfl) h2
  clear hA0 hval0
  simp only [List.append_nil] at hW'
  refine (walk a0 a1 a2 w0 w1 w2 W).mono fun e W' ⟨he, hg⟩ => ?_
  subst he
  exact ⟨_, rfl, post_of_same (pa := []) (pv := []) hW' (fun _ _ _ => (trodAll_cons_mk (shut_bool Try.underlying4 _) trodAll_mk0)) (fun sp _ => (trodAll_cons_mk (shut_int Try.underlying22 w0) (trodAll_cons_mk (shut_int Try.underlying22 w1) (trodAll_cons_mk (shut_int Try.underlying22 w2) trodAll_mk0)))) (fun _ _ => rfl) rfl
    (hg.frame _) hg.2.1 (ok_one (by kernel_rfl) rfl (okWide_bool_mk Try.underlying4 _))⟩

theorem over : Rows.fnMultiplyRingLawsRow.holds Try.pinned (OpenSpec.ofChange Rows.fnMultiplyRingLawsSpec) :=
  OpenClaim.holds_of_wide 4 Try.f4 rfl rfl rfl rfl rfl rfl rfl ⟨rfl, rfl, rfl, rfl, rfl⟩ rfl rfl rfl rfl rfl (by kernel_rfl) Try.func4 (by kernel_rfl)
    (of_decide_eq_true (by kernel_rfl)) (by unfold Func.isWrapper; first | (rw [if_pos (by decide +kernel)]; kernel_rfl) | (rw [if_neg (by decide +kernel)]; exact ⟨rfl, rfl⟩))
    (fun os started H enc _ => lifted os started H enc)

/-- ████ THE STATEMENT ████ -/
theorem proved : Rows.FnMultiplyRingLawsSaid :=
  over
end Go.Proofs.Qxb6604343a.fnMultiplyRingLaws
