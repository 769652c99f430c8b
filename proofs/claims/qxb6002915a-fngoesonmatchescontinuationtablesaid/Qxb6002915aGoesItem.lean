/-
  goesOn AT A LIST ITEM.
-/
import Derived.Test.Qxb6002915aGoes
namespace Go.Proofs.Qxb6002915a
open Go.RowKit
set_option linter.unusedVariables false

theorem wrap_nearItem {p F : Nat} (h : p ≤ F) (h2 : F ≤ p + 1048576) : IntKind.i64.wrap ((F : Int) - (p : Int)) = (F : Int) - (p : Int) := by
  rw [IntKind.wrap_i64]; omega
set_option maxRecDepth 100000 in
set_option maxHeartbeats 8000000 in
theorem goesOn_item (cb tb lb bb : Nat) (a : Option Addr) (n cp : Nat) (f : Nat → Int) (nb : Bool) (p c F C : Nat) (F0 C0 I0 : Int) (bl0 : Bool) (width : Int) (empty : Bool) (html : Int) (w : World) (hC : Core w cb tb lb a n cp f nb) (hP : Pos w cb p c) (hN : Nsp w cb F0 C0 I0 bl0)
    (hB : Blk w bb 2 width empty html) (hne : bb ≠ cb) (hs : scan f (n - p) p c = (F, C)) (hc : c ≤ 1073741824) (hp : p ≤ 9223372036854775807) :
    Calls Try.prog 14 #[.pointer (some ⟨cb, 0, none⟩), .pointer (some ⟨bb, 0, none⟩)] w fun e w' => e = .returned (.bool (goes f n nb p c F C 2 width empty html).1) ∧ Cu w w' cb tb lb a n cp f nb (goes f n nb p c F C 2 width empty html).2.1 (goes f n nb p c F C 2 width empty html).2.2 (F : Int) (C : Int) ((C : Int) - (c : Int)) (atF f n nb F == 0) := by
  have N := (show Hid (Calls Try.prog 20 #[.pointer (some ⟨cb, 0, none⟩)] w fun e w' => e = .returned (.tuple #[]) ∧ Cu w w' cb tb lb a n cp f nb p c (F : Int) (C : Int) ((C : Int) - (c : Int)) (atF f n nb F == 0)) from nonspace_cu cb tb lb a n cp f nb p c F C F0 C0 I0 bl0 w hC hP hN hs hc hp)
  have hle := hC.le
  have hsb := scan_bound hs
  have i0 : (0 : Int) ≤ (C : Int) - (c : Int) := by omega
  have i9 : (C : Int) - (c : Int) ≤ 4294967296 := by omega
  obtain ⟨g, hg⟩ : ∃ g, goes f n nb p c F C 2 width empty html = g := ⟨_, rfl⟩
  rw [hg]
  unfold goes at hg
  rw [if_neg (by decide), if_pos rfl] at hg
  have HG := (show Hid _ from hg)
  have HS : Hid (scan f (n - p) p c = (F, C)) := hs
  have HB : Hid (Blk w bb 2 width empty html) := hB
  clear hg hs hC hP hN hB
  by_cases hw : width ≤ (C : Int) - (c : Int)
  · have e := HG.out
    rw [if_pos hw] at e
    obtain rfl : g = (true, colsK f n p c width) := e.symm
    clear HG e
    go_enter Try.func14, Try.ntmps14
    go_wp2_with fail
    refine N.out.mono ?_
    rintro e w1 ⟨rfl, hU⟩
    have hBk := HB.out.turn hU.grown hne
    have b0 := hBk.b0
    have b1 := hBk.b1
    have b2 := hBk.b2
    have b5 := hBk.b5
    have c6 := hU.nsp.c6
    have HU := (show Hid _ from hU)
    clear hBk hU
    go_wp2_with fail
    go_quiet (fail)
    have HV := (show Hid _ from HU.out.drewN nq)
    have b1' : (w1.drewN nq).cell? ⟨bb, 1, none⟩ = some (.int .i64 width) := b1
    generalize w1.drewN nq = w2 at HV b1' ⊢
    clear b0 b1 b2 b5 c6 HU
    go_wp2_with fail
    refine (advance_cols cb tb lb a n cp f nb p c _ _ _ _ width w w2 HV.out (by omega) (by omega)).mono ?_
    rintro e w3 ⟨rfl, hX⟩
    go_wp2_with fail
    go_ret
    exact ⟨rfl, hX⟩
  · have hw2 : ¬ width ≤ (C : Int) - (c : Int) := hw
    have e := HG.out
    rw [if_neg hw] at e
    have HE := (show Hid _ from e)
    clear e HG
    obtain ⟨bl, hbl⟩ : ∃ bl, (atF f n nb F == 0) = bl := ⟨_, rfl⟩
    have HBL : Hid ((atF f n nb F == 0) = bl) := hbl
    rw [hbl]
    rw [hbl] at N
    clear hbl
    by_cases h2 : bl = true ∧ empty = false
    · obtain ⟨rfl, rfl⟩ := h2
      have e := HE.out
      rw [if_pos ⟨by have := HBL.out; simpa using this, rfl⟩] at e
      obtain rfl : g = (true, F, C) := e.symm
      clear HE e
      go_enter Try.func14, Try.ntmps14
      go_wp2_with fail
      refine N.out.mono ?_
      rintro e w1 ⟨rfl, hU⟩
      have hBk := HB.out.turn hU.grown hne
      have b0 := hBk.b0
      have b1 := hBk.b1
      have b2 := hBk.b2
      have b5 := hBk.b5
      have c6 := hU.nsp.c6
      have HU := (show Hid _ from hU)
      clear hBk hU
      go_wp2_with fail
      go_quiet (fail)
      have HV := (show Hid _ from HU.out.drewN nq)
      have b2' : (w1.drewN nq).cell? ⟨bb, 2, none⟩ = some (.bool false) := b2
      generalize w1.drewN nq = w2 at HV b2' ⊢
      clear b0 b1 b2 b5 c6 HU
      have c2 := HV.out.pos.c2
      have c4 := HV.out.nsp.c4
      have c7 := HV.out.nsp.c7
      go_wp2_with fail
      have WP : Hid (IntKind.i64.wrap ((F : Int) - (p : Int)) = (F : Int) - (p : Int)) := wrap_nearItem (by omega) (by omega)
      go_region_with (first | (go_at_call 22; rw [WP.out]; refine (advance_over cb tb lb a n cp f nb p c F C (F : Int) (C : Int) ((C : Int) - (c : Int)) true w _ ?_ HS.out hc).mono ?_; (first | exact HV.out | exact HV.out.drew); rintro e w3 ⟨rfl, hX⟩))
      all_goals (go_wp2_with fail; go_ret; exact ⟨rfl, hX⟩)
    · have e := HE.out
      rw [if_neg (fun h => h2 ⟨by have := HBL.out; rw [← this]; simpa using h.1, h.2⟩)] at e
      obtain rfl : g = (false, p, c) := e.symm
      clear HE e
      have h3 : bl = false ∨ (bl = true ∧ empty = true) := by
        cases bl
        · exact .inl rfl
        · cases empty
          · exact absurd ⟨rfl, rfl⟩ h2
          · exact .inr ⟨rfl, rfl⟩
      clear h2
      rcases h3 with rfl | ⟨rfl, rfl⟩
      · go_enter Try.func14, Try.ntmps14
        go_wp2_with fail
        refine N.out.mono ?_
        rintro e w1 ⟨rfl, hU⟩
        have hBk := HB.out.turn hU.grown hne
        have b0 := hBk.b0
        have b1 := hBk.b1
        have c6 := hU.nsp.c6
        have HU := (show Hid _ from hU)
        have HBk := (show Hid _ from hBk)
        clear hBk hU
        go_wp2_with fail
        go_quiet (fail)
        have HV := (show Hid _ from HU.out.drewN nq)
        have b2' : (w1.drewN nq).cell? ⟨bb, 2, none⟩ = some (.bool empty) := HBk.out.b2
        generalize w1.drewN nq = w2 at HV b2' ⊢
        have c7 := HV.out.nsp.c7
        clear b0 b1 c6 HU HBk
        go_wp2_with fail
        go_ret
        exact ⟨rfl, HV.out⟩
      · go_enter Try.func14, Try.ntmps14
        go_wp2_with fail
        refine N.out.mono ?_
        rintro e w1 ⟨rfl, hU⟩
        have hBk := HB.out.turn hU.grown hne
        have b0 := hBk.b0
        have b1 := hBk.b1
        have c6 := hU.nsp.c6
        have HU := (show Hid _ from hU)
        have HBk := (show Hid _ from hBk)
        clear hBk hU
        go_wp2_with fail
        go_quiet (fail)
        have HV := (show Hid _ from HU.out.drewN nq)
        have b2' : (w1.drewN nq).cell? ⟨bb, 2, none⟩ = some (.bool true) := HBk.out.b2
        generalize w1.drewN nq = w2 at HV b2' ⊢
        have c7 := HV.out.nsp.c7
        clear b0 b1 c6 HU HBk
        go_wp2_with fail
        go_ret
        exact ⟨rfl, HV.out⟩

end Go.Proofs.Qxb6002915a
