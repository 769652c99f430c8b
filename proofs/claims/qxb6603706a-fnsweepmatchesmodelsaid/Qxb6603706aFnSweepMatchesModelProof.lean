/-
  THE PROOF OF 'FnSweepMatchesModel': the frame turned by hand from the guide's tool's (a slice of strings among the parameters), the walk in Qxb6603706aLaw.
-/
import Derived.Test.Qxb6603706aRows
import Derived.WalkKit
import Derived.ProofKit
import Derived.OpenShut
import Derived.ShutString
import Derived.SliceStrings
import Derived.Test.Qxb6603706aLaw
namespace Go.Proofs.Qxb6603706a.fnSweepMatchesModel
open Go.ChangeShapes Go.WideShapes Go.ChangeAt Go.RowKit
open Go.ChangeMaps (open_string shut_string)
set_option linter.unusedVariables false

theorem own : ownKnob Try.prog.godebug = none := by kernel_rfl
theorem laidOut : laidOutB Try.prog = true := by kernel_rfl

theorem sl_of {w : World} {x : Addr} {n : Nat} {f : Nat → Value} (h : ∀ i, i < n → w.cell? (x.add i) = some (f i)) : Sl w (some x) n f := by
  intro hn
  obtain ⟨b, off, spot⟩ := x
  have hspot : spot = none := by simpa [Addr.add] using World.cell?_spot (h 0 hn)
  subst hspot
  exact ⟨b, off, rfl, fun j hj => by rw [← Go.WideShapes.add_plain]; exact h j hj⟩
/-- what the walk is told of a slice that came in -/
structure Came (w : World) (a : Option Addr) (n c : Nat) (f : Nat → Value) : Prop where
  le : n ≤ maxLen
  sl : Sl w a n f
  nil : a = none → n = 0 ∧ c = 0

set_option maxRecDepth 100000 in
theorem lifted (os : Os) (started : os.Started) (H : Type) (enc : TypeId × Value → H) :
    ReturnsInHanded {} Try.checked os 6 .any (Rows.fnSweepMatchesModelSpec.pre6 enc Try.prog Try.f6 Rows.fnSweepMatchesModelRow.domain false) (Rows.fnSweepMatchesModelSpec.post enc Try.prog Try.f6 false true false false) := by
  refine returnsInHanded_of_change (C := Try.checked) own started (by kernel_rfl) Try.func6
    (ChangeSpec.witness6 (enc := enc) (C := Try.checked) false ⟨#[], #[.slice none 0 0, .slice none 0 0, .slice none 0 0, .int .i64 0, .int .i64 0, .int .i64 0], []⟩ 8 (by kernel_rfl) (by kernel_rfl) (by kernel_rfl) (by kernel_rfl)) ?_
  intro W base args ds gs before hval0 hW hcnd _
  have hval : ∀ (j : Nat) t v, Try.f6.params[j]? = some t → args[j]? = some v → Value.okWide Try.prog W .any base t v := hval0
  have hW' := hW
  obtain ⟨p, q, hA0, hV, rfl, hfz, hnd⟩ := hW
  have hA : DataW.TrodAll enc Try.prog W 0 (fun _ => true) true Try.f6.params.toList args.toList ds p := hA0
  rw [Try.params6] at hA hval
  obtain ⟨v0, vs0, d0, ds0, p0, q0, hargs, rfl, rfl, h0, r0⟩ := trodAll_cons hA
  obtain ⟨v1, vs1, d1, ds1, p1, q1, rfl, rfl, rfl, h1, r1⟩ := trodAll_cons r0
  obtain ⟨v2, vs2, d2, ds2, p2, q2, rfl, rfl, rfl, h2, r2⟩ := trodAll_cons r1
  obtain ⟨v3, vs3, d3, ds3, p3, q3, rfl, rfl, rfl, h3, r3⟩ := trodAll_cons r2
  obtain ⟨v4, vs4, d4, ds4, p4, q4, rfl, rfl, rfl, h4, r4⟩ := trodAll_cons r3
  obtain ⟨v5, vs5, d5, ds5, p5, q5, rfl, rfl, rfl, h5, r5⟩ := trodAll_cons r4
  obtain ⟨rfl, rfl, rfl⟩ := trodAll_nil r5
  obtain rfl : args = #[v0, v1, v2, v3, v4, v5] := by cases args; simp_all
  obtain ⟨rfl, rfl⟩ := trodVars_none hV
  obtain ⟨a0, len0, cap0, rfl⟩ := okWide_slice Try.underlying29 (hval 0 29 v0 rfl rfl)
  have k0 := h0
  have lt0 : ∀ x ∈ p0, x.block < W.heap.size := by obtain ⟨m, hm⟩ := k0; exact DataW.trod_lt m _ _ _ hm
  obtain ⟨ss, c0, z0⟩ : ∃ ss : Nat → ByteArray, Came W a0 len0 cap0 (strV ss) ∧ ∀ j, j < len0 → (ss j).size ≤ maxLen := by
    obtain ⟨fuel, hf⟩ := h0
    rcases open_strings Try.underlying29 Try.underlying9 (by kernel_rfl) hf with ⟨hcs, _⟩ | ⟨x, l, c, sl, hcs, _, hl, hm, hz, _, hcell, hws⟩
    · simp [Value.cells] at hcs
      obtain ⟨rfl, rfl, rfl⟩ := hcs
      exact ⟨fun _ => ByteArray.empty, ⟨Nat.zero_le _, fun h => by omega, fun _ => ⟨rfl, rfl⟩⟩, fun j hj => by omega⟩
    · simp [Value.cells] at hcs
      obtain ⟨rfl, rfl, rfl⟩ := hcs
      have hz : sl.length = cap0 := by simpa using hz
      refine ⟨fun j => sl.getD j ByteArray.empty, ⟨by omega, sl_of (fun i hi => hcell i (by omega)), fun h => by cases h⟩, fun j hj => ?_⟩
      have hj' : j < sl.length := by omega
      show (sl.getD j ByteArray.empty).size ≤ maxLen
      rw [List.getD_eq_getElem?_getD, List.getElem?_eq_getElem hj']
      exact hws _ (List.getElem_mem hj')
  obtain ⟨a1, len1, cap1, rfl⟩ := okWide_slice Try.underlying30 (hval 1 30 v1 rfl rfl)
  have k1 := h1
  have lt1 : ∀ x ∈ p1, x.block < W.heap.size := by obtain ⟨m, hm⟩ := k1; exact DataW.trod_lt m _ _ _ hm
  obtain ⟨f1, c1⟩ : ∃ f : Nat → Int, Came W a1 len1 cap1 (intV f) := by
    obtain ⟨fuel, hf⟩ := h1
    rcases open_ints Try.underlying30 Try.underlying2 (by kernel_rfl) hf with ⟨hcs, _⟩ | ⟨x, l, c, zs, hcs, _, hl, hm, hz, _, hcell, hwz⟩
    · simp [Value.cells] at hcs
      obtain ⟨rfl, rfl, rfl⟩ := hcs
      exact ⟨fun _ => 0, ⟨Nat.zero_le _, fun h => by omega, fun _ => ⟨rfl, rfl⟩⟩⟩
    · simp [Value.cells] at hcs
      obtain ⟨rfl, rfl, rfl⟩ := hcs
      have hz : zs.length = cap1 := by simpa using hz
      exact ⟨fun j => zs.getD j 0, ⟨by omega, sl_of (fun i hi => hcell i (by omega)), fun h => by cases h⟩⟩
  obtain ⟨a2, len2, cap2, rfl⟩ := okWide_slice Try.underlying30 (hval 2 30 v2 rfl rfl)
  have k2 := h2
  have lt2 : ∀ x ∈ p2, x.block < W.heap.size := by obtain ⟨m, hm⟩ := k2; exact DataW.trod_lt m _ _ _ hm
  obtain ⟨f2, c2⟩ : ∃ f : Nat → Int, Came W a2 len2 cap2 (intV f) := by
    obtain ⟨fuel, hf⟩ := h2
    rcases open_ints Try.underlying30 Try.underlying2 (by kernel_rfl) hf with ⟨hcs, _⟩ | ⟨x, l, c, zs, hcs, _, hl, hm, hz, _, hcell, hwz⟩
    · simp [Value.cells] at hcs
      obtain ⟨rfl, rfl, rfl⟩ := hcs
      exact ⟨fun _ => 0, ⟨Nat.zero_le _, fun h => by omega, fun _ => ⟨rfl, rfl⟩⟩⟩
    · simp [Value.cells] at hcs
      obtain ⟨rfl, rfl, rfl⟩ := hcs
      have hz : zs.length = cap2 := by simpa using hz
      exact ⟨fun j => zs.getD j 0, ⟨by omega, sl_of (fun i hi => hcell i (by omega)), fun h => by cases h⟩⟩
  obtain ⟨a3, rfl, rfl, rfl, w3⟩ := open_int Try.underlying3 (hval 3 3 v3 rfl rfl) h3
  obtain ⟨a4, rfl, rfl, rfl, w4⟩ := open_int Try.underlying2 (hval 4 2 v4 rfl rfl) h4
  obtain ⟨a5, rfl, rfl, rfl, w5⟩ := open_int Try.underlying2 (hval 5 2 v5 rfl rfl) h5
  clear hA0 hval0
  have hb3 := bounds_i64 w3
  refine (law_walk a0 a1 a2 len0 len1 len2 cap0 cap1 cap2 ss f1 f2 a3 a4 a5 W c0.le c1.le c2.le c0.sl c1.sl c2.sl c0.nil c1.nil c2.nil z0 hb3.1 hb3.2).mono fun e W' ⟨he, bel⟩ => ?_
  subst he
  exact ⟨_, rfl, _, _, _, [], _, [], hW', trodAll_mk1 (shut_bool Try.underlying4 _), (trodAll_cons_mk (Below.trod laidOut (by kernel_rfl) (of_decide_eq_true (by kernel_rfl)) k0 bel lt0) (trodAll_cons_mk (Below.trod laidOut (by kernel_rfl) (of_decide_eq_true (by kernel_rfl)) k1 bel lt1) (trodAll_cons_mk (Below.trod laidOut (by kernel_rfl) (of_decide_eq_true (by kernel_rfl)) k2 bel lt2) (trodAll_cons_mk (shut_int Try.underlying3 w3) (trodAll_cons_mk (shut_int Try.underlying2 w4) (trodAll_cons_mk (shut_int Try.underlying2 w5) trodAll_mk0)))))), rfl, bel.frame _, fun h => by cases h⟩

theorem over : Rows.fnSweepMatchesModelRow.holds Try.pinned (OpenSpec.ofChange Rows.fnSweepMatchesModelSpec) :=
  OpenClaim.holds_of_wide 6 Try.f6 rfl rfl rfl rfl rfl rfl rfl ⟨rfl, rfl, rfl, rfl, rfl⟩ rfl rfl rfl rfl rfl (by kernel_rfl) Try.func6 (by kernel_rfl)
    (of_decide_eq_true (by kernel_rfl)) (by unfold Func.isWrapper; first | (rw [if_pos (by decide +kernel)]; kernel_rfl) | (rw [if_neg (by decide +kernel)]; exact ⟨rfl, rfl⟩))
    (fun os started H enc _ => lifted os started H enc)

theorem proved : Rows.FnSweepMatchesModelSaid := over
end Go.Proofs.Qxb6603706a.fnSweepMatchesModel
