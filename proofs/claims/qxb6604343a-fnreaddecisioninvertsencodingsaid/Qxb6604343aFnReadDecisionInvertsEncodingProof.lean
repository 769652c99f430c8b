/-
  THE PROOF OF 'FnReadDecisionInvertsEncoding': the frame turned by hand from the guide's tool's (a slice of strings among the parameters), the walk in Qxb6604343aLaw.
-/
import Derived.Test.Qxb6604343aRows
import Derived.WalkKit
import Derived.ProofKit
import Derived.OpenShut
import Derived.ShutString
import Derived.SliceStrings
import Derived.Test.Qxb6604343aLaw
namespace Go.Proofs.Qxb6604343a.fnReadDecisionInvertsEncoding
open Go.ChangeShapes Go.WideShapes Go.ChangeAt Go.RowKit
open Go.ChangeMaps (open_string shut_string)
set_option linter.unusedVariables false

theorem own : ownKnob Try.prog.godebug = none := by kernel_rfl
theorem laidOut : laidOutB Try.prog = true := by kernel_rfl

theorem sl_of {w : World} {x : Addr} {n : Nat} {f : Nat → Value} (h : ∀ i, i < n → w.cell? (x.add i) = some (f i)) : Sl w (some x) n f := by
  intro hn
  obtain ⟨b, off, spot⟩ := x
  have hspot : spot = none := by simpa [Addr.add] using World.cell?_spot (h 0 hn)
  subst hspot
  exact ⟨b, off, rfl, fun j hj => by rw [← Go.WideShapes.add_plain]; exact h j hj⟩
/-- what the walk is told of a slice that came in -/
structure Came (w : World) (a : Option Addr) (n c : Nat) (f : Nat → Value) : Prop where
  le : n ≤ maxLen
  sl : Sl w a n f
  nil : a = none → n = 0 ∧ c = 0

set_option maxRecDepth 100000 in
theorem lifted (os : Os) (started : os.Started) (H : Type) (enc : TypeId × Value → H) :
    ReturnsInHanded {} Try.checked os 5 .any (Rows.fnReadDecisionInvertsEncodingSpec.pre6 enc Try.prog Try.f5 Rows.fnReadDecisionInvertsEncodingRow.domain false) (Rows.fnReadDecisionInvertsEncodingSpec.post enc Try.prog Try.f5 false true false false) := by
  refine returnsInHanded_of_change (C := Try.checked) own started (by kernel_rfl) Try.func5
    (ChangeSpec.witness6 (enc := enc) (C := Try.checked) false ⟨#[], #[.string ByteArray.empty, .slice none 0 0, .slice none 0 0, .slice none 0 0], []⟩ 8 (by kernel_rfl) (by kernel_rfl) (by kernel_rfl) (by kernel_rfl)) ?_
  intro W base args ds gs before hval0 hW hcnd _
  have hval : ∀ (j : Nat) t v, Try.f5.params[j]? = some t → args[j]? = some v → Value.okWide Try.prog W .any base t v := hval0
  have hW' := hW
  obtain ⟨p, q, hA0, hV, rfl, hfz, hnd⟩ := hW
  have hA : DataW.TrodAll enc Try.prog W 0 (fun _ => true) true Try.f5.params.toList args.toList ds p := hA0
  rw [Try.params5] at hA hval
  obtain ⟨v0, vs0, d0, ds0, p0, q0, hargs, rfl, rfl, h0, r0⟩ := trodAll_cons hA
  obtain ⟨v1, vs1, d1, ds1, p1, q1, rfl, rfl, rfl, h1, r1⟩ := trodAll_cons r0
  obtain ⟨v2, vs2, d2, ds2, p2, q2, rfl, rfl, rfl, h2, r2⟩ := trodAll_cons r1
  obtain ⟨v3, vs3, d3, ds3, p3, q3, rfl, rfl, rfl, h3, r3⟩ := trodAll_cons r2
  obtain ⟨rfl, rfl, rfl⟩ := trodAll_nil r3
  obtain rfl : args = #[v0, v1, v2, v3] := by cases args; simp_all
  obtain ⟨rfl, rfl⟩ := trodVars_none hV
  obtain ⟨s0, rfl, rfl, rfl, w0⟩ := open_string Try.underlying9 (hval 0 9 v0 rfl rfl) h0
  obtain ⟨a1, len1, cap1, rfl⟩ := okWide_slice Try.underlying27 (hval 1 27 v1 rfl rfl)
  have k1 := h1
  have lt1 : ∀ x ∈ p1, x.block < W.heap.size := by obtain ⟨m, hm⟩ := k1; exact DataW.trod_lt m _ _ _ hm
  obtain ⟨ss, c1, z1⟩ : ∃ ss : Nat → ByteArray, Came W a1 len1 cap1 (strV ss) ∧ ∀ j, j < len1 → (ss j).size ≤ maxLen := by
    obtain ⟨fuel, hf⟩ := h1
    rcases open_strings Try.underlying27 Try.underlying9 (by kernel_rfl) hf with ⟨hcs, _⟩ | ⟨x, l, c, sl, hcs, _, hl, hm, hz, _, hcell, hws⟩
    · simp [Value.cells] at hcs
      obtain ⟨rfl, rfl, rfl⟩ := hcs
      exact ⟨fun _ => ByteArray.empty, ⟨Nat.zero_le _, fun h => by omega, fun _ => ⟨rfl, rfl⟩⟩, fun j hj => by omega⟩
    · simp [Value.cells] at hcs
      obtain ⟨rfl, rfl, rfl⟩ := hcs
      have hz : sl.length = cap1 := by simpa using hz
      refine ⟨fun j => sl.getD j ByteArray.empty, ⟨by omega, sl_of (fun i hi => hcell i (by omega)), fun h => by cases h⟩, fun j hj => ?_⟩
      have hj' : j < sl.length := by omega
      show (sl.getD j ByteArray.empty).size ≤ maxLen
      rw [List.getD_eq_getElem?_getD, List.getElem?_eq_getElem hj']
      exact hws _ (List.getElem_mem hj')
  obtain ⟨a2, len2, cap2, rfl⟩ := okWide_slice Try.underlying28 (hval 2 28 v2 rfl rfl)
  have k2 := h2
  have lt2 : ∀ x ∈ p2, x.block < W.heap.size := by obtain ⟨m, hm⟩ := k2; exact DataW.trod_lt m _ _ _ hm
  obtain ⟨f2, c2, z2⟩ : ∃ f : Nat → Int, Came W a2 len2 cap2 (intV f) ∧ ∀ j, j < len2 → f j ≤ 9223372036854775807 := by
    obtain ⟨fuel, hf⟩ := h2
    rcases open_ints Try.underlying28 Try.underlying2 (by kernel_rfl) hf with ⟨hcs, _⟩ | ⟨x, l, c, zs, hcs, _, hl, hm, hz, _, hcell, hwz⟩
    · simp [Value.cells] at hcs
      obtain ⟨rfl, rfl, rfl⟩ := hcs
      exact ⟨fun _ => 0, ⟨Nat.zero_le _, fun h => by omega, fun _ => ⟨rfl, rfl⟩⟩, fun j hj => by omega⟩
    · simp [Value.cells] at hcs
      obtain ⟨rfl, rfl, rfl⟩ := hcs
      have hz : zs.length = cap2 := by simpa using hz
      refine ⟨fun j => zs.getD j 0, ⟨by omega, sl_of (fun i hi => hcell i (by omega)), fun h => by cases h⟩, fun j hj => ?_⟩
      have hj' : j < zs.length := by omega
      show zs.getD j 0 ≤ 9223372036854775807
      rw [List.getD_eq_getElem?_getD, List.getElem?_eq_getElem hj']
      exact (bounds_i64 (hwz _ (List.getElem_mem hj'))).2
  obtain ⟨a3, len3, cap3, rfl⟩ := okWide_slice Try.underlying28 (hval 3 28 v3 rfl rfl)
  have k3 := h3
  have lt3 : ∀ x ∈ p3, x.block < W.heap.size := by obtain ⟨m, hm⟩ := k3; exact DataW.trod_lt m _ _ _ hm
  obtain ⟨f3, c3, z3⟩ : ∃ f : Nat → Int, Came W a3 len3 cap3 (intV f) ∧ ∀ j, j < len3 → f j ≤ 9223372036854775807 := by
    obtain ⟨fuel, hf⟩ := h3
    rcases open_ints Try.underlying28 Try.underlying2 (by kernel_rfl) hf with ⟨hcs, _⟩ | ⟨x, l, c, zs, hcs, _, hl, hm, hz, _, hcell, hwz⟩
    · simp [Value.cells] at hcs
      obtain ⟨rfl, rfl, rfl⟩ := hcs
      exact ⟨fun _ => 0, ⟨Nat.zero_le _, fun h => by omega, fun _ => ⟨rfl, rfl⟩⟩, fun j hj => by omega⟩
    · simp [Value.cells] at hcs
      obtain ⟨rfl, rfl, rfl⟩ := hcs
      have hz : zs.length = cap3 := by simpa using hz
      refine ⟨fun j => zs.getD j 0, ⟨by omega, sl_of (fun i hi => hcell i (by omega)), fun h => by cases h⟩, fun j hj => ?_⟩
      have hj' : j < zs.length := by omega
      show zs.getD j 0 ≤ 9223372036854775807
      rw [List.getD_eq_getElem?_getD, List.getElem?_eq_getElem hj']
      exact (bounds_i64 (hwz _ (List.getElem_mem hj'))).2
  clear hA0 hval0
  refine (law_walk s0 a1 a2 a3 len1 len2 len3 cap1 cap2 cap3 ss f2 f3 W w0 c1.le c2.le c3.le c1.sl c2.sl c3.sl c1.nil c2.nil c3.nil z1 z2 z3).mono fun e W' ⟨he, bel⟩ => ?_
  subst he
  exact ⟨_, rfl, _, _, _, [], _, [], hW', trodAll_mk1 (shut_bool Try.underlying4 _), (trodAll_cons_mk (shut_string Try.underlying9 w0) (trodAll_cons_mk (Below.trod laidOut (by kernel_rfl) (of_decide_eq_true (by kernel_rfl)) k1 bel lt1) (trodAll_cons_mk (Below.trod laidOut (by kernel_rfl) (of_decide_eq_true (by kernel_rfl)) k2 bel lt2) (trodAll_cons_mk (Below.trod laidOut (by kernel_rfl) (of_decide_eq_true (by kernel_rfl)) k3 bel lt3) trodAll_mk0)))), rfl, bel.frame _, fun h => by cases h⟩

theorem over : Rows.fnReadDecisionInvertsEncodingRow.holds Try.pinned (OpenSpec.ofChange Rows.fnReadDecisionInvertsEncodingSpec) :=
  OpenClaim.holds_of_wide 5 Try.f5 rfl rfl rfl rfl rfl rfl rfl ⟨rfl, rfl, rfl, rfl, rfl⟩ rfl rfl rfl rfl rfl (by kernel_rfl) Try.func5 (by kernel_rfl)
    (of_decide_eq_true (by kernel_rfl)) (by unfold Func.isWrapper; first | (rw [if_pos (by decide +kernel)]; kernel_rfl) | (rw [if_neg (by decide +kernel)]; exact ⟨rfl, rfl⟩))
    (fun os started H enc _ => lifted os started H enc)

theorem proved : Rows.FnReadDecisionInvertsEncodingSaid := over
end Go.Proofs.Qxb6604343a.fnReadDecisionInvertsEncoding
