/-
  THE CONTRACT of (*cursor).goesOn.
-/
import Derived.Test.Qxb6002915aNonspace
import Derived.Test.Qxb6002915aAdvance
namespace Go.Proofs.Qxb6002915a
open Go.RowKit
set_option linter.unusedVariables false

/-- the block that is asked -/
structure Blk (w : World) (bb : Nat) (kind width : Int) (empty : Bool) (html : Int) : Prop where
  b0 : w.cell? ⟨bb, 0, none⟩ = some (.int .u8 kind)
  b1 : w.cell? ⟨bb, 1, none⟩ = some (.int .i64 width)
  b2 : w.cell? ⟨bb, 2, none⟩ = some (.bool empty)
  b5 : w.cell? ⟨bb, 5, none⟩ = some (.int .i64 html)
theorem Blk.turn {w w' : World} {bb r : Nat} {kind width : Int} {empty : Bool} {html : Int} (h : Blk w bb kind width empty html) (hg : w.grownBy w' (some r)) (hne : bb ≠ r) : Blk w' bb kind width empty html :=
  ⟨cell_turn hg h.b0 hne, cell_turn hg h.b1 hne, cell_turn hg h.b2 hne, cell_turn hg h.b5 hne⟩
theorem ret_bool {x y : Bool} (h : x = y) : Ending.returned (.bool x) = .returned (.bool y) := by rw [h]

/-- nonspace, told of the cursor whole -/
theorem nonspace_cu (cb tb lb : Nat) (a : Option Addr) (n cp : Nat) (f : Nat → Int) (nb : Bool) (p c F C : Nat) (F0 C0 I0 : Int) (bl0 : Bool) (w : World) (hC : Core w cb tb lb a n cp f nb) (hP : Pos w cb p c) (hN : Nsp w cb F0 C0 I0 bl0)
    (hs : scan f (n - p) p c = (F, C)) (hc : c ≤ 1073741824) (hp : p ≤ 9223372036854775807) :
    Calls Try.prog 20 #[.pointer (some ⟨cb, 0, none⟩)] w fun e w' => e = .returned (.tuple #[]) ∧ Cu w w' cb tb lb a n cp f nb p c (F : Int) (C : Int) ((C : Int) - (c : Int)) (atF f n nb F == 0) :=
  (nonspace_any cb tb lb a n cp f nb p c F C F0 C0 I0 bl0 w hC hP hN hs hc hp).mono (fun e w' ⟨h, h1, h2, h3, h4⟩ => ⟨h, h1, h2, h3, h4⟩)

set_option maxRecDepth 100000 in
set_option maxHeartbeats 8000000 in
theorem goesOn_quote (cb tb lb bb : Nat) (a : Option Addr) (n cp : Nat) (f : Nat → Int) (nb : Bool) (p c F C : Nat) (F0 C0 I0 : Int) (bl0 : Bool) (width : Int) (empty : Bool) (html : Int) (w : World) (hC : Core w cb tb lb a n cp f nb) (hP : Pos w cb p c) (hN : Nsp w cb F0 C0 I0 bl0)
    (hB : Blk w bb 1 width empty html) (hne : bb ≠ cb) (hs : scan f (n - p) p c = (F, C)) (hc : c ≤ 1073741824) (hp : p ≤ 9223372036854775807) :
    Calls Try.prog 14 #[.pointer (some ⟨cb, 0, none⟩), .pointer (some ⟨bb, 0, none⟩)] w fun e w' => e = .returned (.bool (goes f n nb p c F C 1 width empty html).1) ∧ Cu w w' cb tb lb a n cp f nb (goes f n nb p c F C 1 width empty html).2.1 (goes f n nb p c F C 1 width empty html).2.2 (F : Int) (C : Int) ((C : Int) - (c : Int)) (atF f n nb F == 0) := by
  have N := (show Hid (Calls Try.prog 20 #[.pointer (some ⟨cb, 0, none⟩)] w fun e w' => e = .returned (.tuple #[]) ∧ Cu w w' cb tb lb a n cp f nb p c (F : Int) (C : Int) ((C : Int) - (c : Int)) (atF f n nb F == 0)) from nonspace_cu cb tb lb a n cp f nb p c F C F0 C0 I0 bl0 w hC hP hN hs hc hp)
  have hle := hC.le
  have hsb := scan_bound hs
  have i0 : (0 : Int) ≤ (C : Int) - (c : Int) := by omega
  have i9 : (C : Int) - (c : Int) ≤ 4294967296 := by omega
  obtain ⟨g, hg⟩ : ∃ g, goes f n nb p c F C 1 width empty html = g := ⟨_, rfl⟩
  rw [hg]
  unfold goes at hg
  rw [if_pos rfl] at hg
  have HG := (show Hid _ from hg)
  have HS : Hid (scan f (n - p) p c = (F, C)) := hs
  have HB : Hid (Blk w bb 1 width empty html) := hB
  clear hg hs hC hP hN hB
  by_cases h3 : (3 : Int) < (C : Int) - (c : Int)
  · have e := HG.out
    rw [if_pos (.inl h3)] at e
    obtain rfl : g = (false, p, c) := e.symm
    clear HG e
    go_enter Try.func14, Try.ntmps14
    go_wp2_with fail
    refine N.out.mono ?_
    rintro e w1 ⟨rfl, hU⟩
    have b0 := (HB.out.turn hU.grown hne).b0
    have c6 := hU.nsp.c6
    go_wp2_with fail
    go_ret
    exact ⟨rfl, hU⟩
  · have A := (show Hid (∀ (i : Nat) w', Core w' cb tb lb a n cp f nb → Calls Try.prog 21 #[.pointer (some ⟨cb, 0, none⟩), .int .i64 (i : Int)] w' fun e w'' => e = .returned (.int .u8 (atF f n nb i)) ∧ w'' = w') from fun i w' h' => at_any cb tb lb a n cp f nb i w' h')
    by_cases h62 : atF f n nb F = 62
    · have hF : F < n := by
        by_cases h : F < n
        · exact h
        · exfalso
          unfold atF at h62
          rw [if_neg h] at h62
          split at h62 <;> cases h62
      have hf : f F = 62 := by rw [← h62, atF_in hF]
      have q := colsK_quote HS.out hF hf
      have e := HG.out
      rw [if_neg (fun h => by rcases h with h | h; exact h3 h; exact h h62)] at e
      have A1 := (show Hid (∀ w', Core w' cb tb lb a n cp f nb → Calls Try.prog 21 #[.pointer (some ⟨cb, 0, none⟩), .int .i64 (F : Int)] w' fun e w'' => e = .returned (.int .u8 62) ∧ w'' = w') from fun w' h' => by rw [← h62]; exact A.out F w' h')
      have HE := (show Hid _ from e)
      have HQ : Hid (colsK f n p c ((C : Int) - (c : Int) + 1) = (F + 1, C + 1)) := q
      clear HG e q h62 hf
      go_enter Try.func14, Try.ntmps14
      go_wp2_with fail
      refine N.out.mono ?_
      rintro e w1 ⟨rfl, hU⟩
      have b0 := (HB.out.turn hU.grown hne).b0
      have c4 := hU.nsp.c4
      have c6 := hU.nsp.c6
      have HU := (show Hid _ from hU)
      clear hU
      go_wp2_with fail
      refine (A1.out w1 HU.out.core).mono ?_
      rintro e w2 ⟨rfl, hw⟩
      obtain rfl : w1 = w2 := hw.symm
      go_wp2_with fail
      refine (advance_cols cb tb lb a n cp f nb p c _ _ _ _ _ w w1 HU.out (by omega) (by omega)).mono ?_
      rintro e w2 ⟨rfl, hV⟩
      rw [HQ.out] at hV
      have c2 := hV.pos.c2
      have HV := (show Hid _ from hV)
      clear hV c4 c6 b0 HU
      go_wp2_with fail
      refine (A.out (F + 1) w2 HV.out.core).mono ?_
      rintro e w3 ⟨rfl, hw⟩
      obtain rfl : w2 = w3 := hw.symm
      obtain ⟨b, hb⟩ : ∃ b, atF f n nb (F + 1) = b := ⟨_, rfl⟩
      have e := HE.out
      rw [hb] at e ⊢
      have HE2 := (show Hid _ from e)
      clear e HE hb A
      go_wp2_with fail
      refine (space_any b w2).mono ?_
      rintro e w3 ⟨rfl, hw⟩
      obtain rfl : w2 = w3 := hw.symm
      by_cases hb : b = 32 ∨ b = 9
      · have e := HE2.out
        rw [if_pos hb] at e
        obtain rfl : g = (true, colsK f n (F + 1) (C + 1) 1) := e.symm
        have hbb : (b == 32 || b == 9) = true := by rcases hb with rfl | rfl <;> rfl
        rw [hbb]
        clear HE2 e
        go_wp2_with fail
        refine (advance_cols cb tb lb a n cp f nb (F + 1) (C + 1) _ _ _ _ 1 w w2 HV.out (by omega) (by omega)).mono ?_
        rintro e w3 ⟨rfl, hX⟩
        go_wp2_with fail
        go_ret
        exact ⟨rfl, hX⟩
      · have e := HE2.out
        rw [if_neg hb] at e
        obtain rfl : g = (true, F + 1, C + 1) := e.symm
        have hbb : (b == 32 || b == 9) = false := by
          simp only [Bool.or_eq_false_iff, beq_eq_false_iff_ne]
          exact ⟨fun h => hb (.inl h), fun h => hb (.inr h)⟩
        rw [hbb]
        clear HE2 e
        go_wp2_with fail
        go_ret
        exact ⟨rfl, HV.out⟩
    · have e := HG.out
      rw [if_pos (.inr h62)] at e
      obtain rfl : g = (false, p, c) := e.symm
      clear HG e
      go_enter Try.func14, Try.ntmps14
      go_wp2_with fail
      refine N.out.mono ?_
      rintro e w1 ⟨rfl, hU⟩
      have b0 := (HB.out.turn hU.grown hne).b0
      have c4 := hU.nsp.c4
      have c6 := hU.nsp.c6
      have HU := (show Hid _ from hU)
      clear hU
      go_wp2_with fail
      refine (A.out F w1 HU.out.core).mono ?_
      rintro e w2 ⟨rfl, hw⟩
      obtain rfl : w1 = w2 := hw.symm
      obtain ⟨b, hb⟩ : ∃ b, atF f n nb F = b := ⟨_, rfl⟩
      rw [hb] at h62
      rw [hb]
      have hb62 : (b != 62) = true := by simp [h62]
      clear A hb
      go_wp2_with fail
      go_ret
      exact ⟨rfl, HU.out⟩
end Go.Proofs.Qxb6002915a
