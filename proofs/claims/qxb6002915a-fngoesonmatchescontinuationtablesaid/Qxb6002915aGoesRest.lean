/-
  goesOn AT THE OTHER KINDS.
-/
import Derived.Test.Qxb6002915aGoes
namespace Go.Proofs.Qxb6002915a
open Go.RowKit
set_option linter.unusedVariables false

set_option maxRecDepth 100000 in
set_option maxHeartbeats 8000000 in
theorem goesOn_html (cb tb lb bb : Nat) (a : Option Addr) (n cp : Nat) (f : Nat → Int) (nb : Bool) (p c F C : Nat) (F0 C0 I0 : Int) (bl0 : Bool) (width : Int) (empty : Bool) (html : Int) (w : World) (hC : Core w cb tb lb a n cp f nb) (hP : Pos w cb p c) (hN : Nsp w cb F0 C0 I0 bl0)
    (hB : Blk w bb 6 width empty html) (hne : bb ≠ cb) (hs : scan f (n - p) p c = (F, C)) (hc : c ≤ 1073741824) (hp : p ≤ 9223372036854775807) :
    Calls Try.prog 14 #[.pointer (some ⟨cb, 0, none⟩), .pointer (some ⟨bb, 0, none⟩)] w fun e w' => e = .returned (.bool (goes f n nb p c F C 6 width empty html).1) ∧ Cu w w' cb tb lb a n cp f nb (goes f n nb p c F C 6 width empty html).2.1 (goes f n nb p c F C 6 width empty html).2.2 (F : Int) (C : Int) ((C : Int) - (c : Int)) (atF f n nb F == 0) := by
  have N := (show Hid (Calls Try.prog 20 #[.pointer (some ⟨cb, 0, none⟩)] w fun e w' => e = .returned (.tuple #[]) ∧ Cu w w' cb tb lb a n cp f nb p c (F : Int) (C : Int) ((C : Int) - (c : Int)) (atF f n nb F == 0)) from nonspace_cu cb tb lb a n cp f nb p c F C F0 C0 I0 bl0 w hC hP hN hs hc hp)
  have hle := hC.le
  have hsb := scan_bound hs
  have i0 : (0 : Int) ≤ (C : Int) - (c : Int) := by omega
  have i9 : (C : Int) - (c : Int) ≤ 4294967296 := by omega
  obtain ⟨g, hg⟩ : ∃ g, goes f n nb p c F C 6 width empty html = g := ⟨_, rfl⟩
  rw [hg]
  unfold goes at hg
  rw [if_neg (by decide), if_neg (by decide), if_neg (by decide), if_pos rfl] at hg
  have HG := (show Hid _ from hg)
  have HS : Hid (scan f (n - p) p c = (F, C)) := hs
  have HB : Hid (Blk w bb 6 width empty html) := hB
  clear hg hs hC hP hN hB
  obtain ⟨bl, hbl⟩ : ∃ bl, (atF f n nb F == 0) = bl := ⟨_, rfl⟩
  have hbl2 : decide (atF f n nb F = 0) = bl := by rw [← hbl]; rfl
  have e := HG.out
  rw [hbl2] at e
  obtain rfl : g = (decide (html ≤ 5) || !bl, p, c) := e.symm
  rw [hbl]
  rw [hbl] at N
  clear HG e hbl hbl2
  by_cases h5 : html ≤ 5
  · have e5 : decide (html ≤ 5) = true := by simp [h5]
    rw [e5]
    go_enter Try.func14, Try.ntmps14
    go_wp2_with fail
    refine N.out.mono ?_
    rintro e w1 ⟨rfl, hU⟩
    have hBk := HB.out.turn hU.grown hne
    have b0 := hBk.b0
    have b1 := hBk.b1
    have b2 := hBk.b2
    have b5 := hBk.b5
    have c6 := hU.nsp.c6
    have HU := (show Hid _ from hU)
    clear hBk hU
    have c7 := HU.out.nsp.c7
    go_wp2_with fail
    go_ret
    exact ⟨rfl, HU.out⟩
  · have e5 : decide (html ≤ 5) = false := by simp; omega
    rw [e5]
    go_enter Try.func14, Try.ntmps14
    go_wp2_with fail
    refine N.out.mono ?_
    rintro e w1 ⟨rfl, hU⟩
    have hBk := HB.out.turn hU.grown hne
    have b0 := hBk.b0
    have b1 := hBk.b1
    have b2 := hBk.b2
    have b5 := hBk.b5
    have c6 := hU.nsp.c6
    have HU := (show Hid _ from hU)
    clear hBk hU
    have c7 := HU.out.nsp.c7
    go_wp2_with fail
    go_ret
    exact ⟨rfl, HU.out⟩

set_option maxRecDepth 100000 in
set_option maxHeartbeats 8000000 in
theorem goesOn_par (cb tb lb bb : Nat) (a : Option Addr) (n cp : Nat) (f : Nat → Int) (nb : Bool) (p c F C : Nat) (F0 C0 I0 : Int) (bl0 : Bool) (width : Int) (empty : Bool) (html : Int) (w : World) (hC : Core w cb tb lb a n cp f nb) (hP : Pos w cb p c) (hN : Nsp w cb F0 C0 I0 bl0)
    (hB : Blk w bb 3 width empty html) (hne : bb ≠ cb) (hs : scan f (n - p) p c = (F, C)) (hc : c ≤ 1073741824) (hp : p ≤ 9223372036854775807) :
    Calls Try.prog 14 #[.pointer (some ⟨cb, 0, none⟩), .pointer (some ⟨bb, 0, none⟩)] w fun e w' => e = .returned (.bool (goes f n nb p c F C 3 width empty html).1) ∧ Cu w w' cb tb lb a n cp f nb (goes f n nb p c F C 3 width empty html).2.1 (goes f n nb p c F C 3 width empty html).2.2 (F : Int) (C : Int) ((C : Int) - (c : Int)) (atF f n nb F == 0) := by
  have N := (show Hid (Calls Try.prog 20 #[.pointer (some ⟨cb, 0, none⟩)] w fun e w' => e = .returned (.tuple #[]) ∧ Cu w w' cb tb lb a n cp f nb p c (F : Int) (C : Int) ((C : Int) - (c : Int)) (atF f n nb F == 0)) from nonspace_cu cb tb lb a n cp f nb p c F C F0 C0 I0 bl0 w hC hP hN hs hc hp)
  have hle := hC.le
  have hsb := scan_bound hs
  have i0 : (0 : Int) ≤ (C : Int) - (c : Int) := by omega
  have i9 : (C : Int) - (c : Int) ≤ 4294967296 := by omega
  obtain ⟨g, hg⟩ : ∃ g, goes f n nb p c F C 3 width empty html = g := ⟨_, rfl⟩
  rw [hg]
  unfold goes at hg
  rw [if_neg (by decide), if_neg (by decide), if_neg (by decide), if_neg (by decide), if_pos rfl] at hg
  have HG := (show Hid _ from hg)
  have HS : Hid (scan f (n - p) p c = (F, C)) := hs
  have HB : Hid (Blk w bb 3 width empty html) := hB
  clear hg hs hC hP hN hB
  obtain ⟨bl, hbl⟩ : ∃ bl, (atF f n nb F == 0) = bl := ⟨_, rfl⟩
  have hbl2 : decide (atF f n nb F = 0) = bl := by rw [← hbl]; rfl
  have e := HG.out
  rw [hbl2] at e
  obtain rfl : g = (!bl, p, c) := e.symm
  rw [hbl]
  rw [hbl] at N
  clear HG e hbl hbl2
  go_enter Try.func14, Try.ntmps14
  go_wp2_with fail
  refine N.out.mono ?_
  rintro e w1 ⟨rfl, hU⟩
  have hBk := HB.out.turn hU.grown hne
  have b0 := hBk.b0
  have b1 := hBk.b1
  have b2 := hBk.b2
  have b5 := hBk.b5
  have c6 := hU.nsp.c6
  have HU := (show Hid _ from hU)
  clear hBk hU
  have c7 := HU.out.nsp.c7
  go_wp2_with fail
  go_ret
  exact ⟨rfl, HU.out⟩

set_option maxRecDepth 100000 in
set_option maxHeartbeats 8000000 in
theorem goesOn_other (cb tb lb bb : Nat) (a : Option Addr) (n cp : Nat) (f : Nat → Int) (nb : Bool) (p c F C : Nat) (F0 C0 I0 : Int) (bl0 : Bool) (kind : Int) (width : Int) (empty : Bool) (html : Int) (w : World) (hC : Core w cb tb lb a n cp f nb) (hP : Pos w cb p c) (hN : Nsp w cb F0 C0 I0 bl0)
    (hB : Blk w bb kind width empty html) (hne : bb ≠ cb) (hs : scan f (n - p) p c = (F, C)) (hc : c ≤ 1073741824) (hp : p ≤ 9223372036854775807) (k1 : kind ≠ 1) (k2 : kind ≠ 2) (k5 : kind ≠ 5) (k6 : kind ≠ 6) (k3 : kind ≠ 3) :
    Calls Try.prog 14 #[.pointer (some ⟨cb, 0, none⟩), .pointer (some ⟨bb, 0, none⟩)] w fun e w' => e = .returned (.bool (goes f n nb p c F C kind width empty html).1) ∧ Cu w w' cb tb lb a n cp f nb (goes f n nb p c F C kind width empty html).2.1 (goes f n nb p c F C kind width empty html).2.2 (F : Int) (C : Int) ((C : Int) - (c : Int)) (atF f n nb F == 0) := by
  have N := (show Hid (Calls Try.prog 20 #[.pointer (some ⟨cb, 0, none⟩)] w fun e w' => e = .returned (.tuple #[]) ∧ Cu w w' cb tb lb a n cp f nb p c (F : Int) (C : Int) ((C : Int) - (c : Int)) (atF f n nb F == 0)) from nonspace_cu cb tb lb a n cp f nb p c F C F0 C0 I0 bl0 w hC hP hN hs hc hp)
  have hle := hC.le
  have hsb := scan_bound hs
  have i0 : (0 : Int) ≤ (C : Int) - (c : Int) := by omega
  have i9 : (C : Int) - (c : Int) ≤ 4294967296 := by omega
  obtain ⟨g, hg⟩ : ∃ g, goes f n nb p c F C kind width empty html = g := ⟨_, rfl⟩
  rw [hg]
  unfold goes at hg
  rw [if_neg k1, if_neg k2, if_neg k5, if_neg k6, if_neg k3] at hg
  have HG := (show Hid _ from hg)
  have HS : Hid (scan f (n - p) p c = (F, C)) := hs
  have HB : Hid (Blk w bb kind width empty html) := hB
  clear hg hs hC hP hN hB
  obtain ⟨bl, hbl⟩ : ∃ bl, (atF f n nb F == 0) = bl := ⟨_, rfl⟩
  have hbl2 : decide (atF f n nb F = 0) = bl := by rw [← hbl]; rfl
  have e := HG.out
  obtain rfl : g = (true, p, c) := e.symm
  rw [hbl]
  rw [hbl] at N
  clear HG e hbl hbl2
  go_enter Try.func14, Try.ntmps14
  go_wp2_with fail
  refine N.out.mono ?_
  rintro e w1 ⟨rfl, hU⟩
  have hBk := HB.out.turn hU.grown hne
  have b0 := hBk.b0
  have b1 := hBk.b1
  have b2 := hBk.b2
  have b5 := hBk.b5
  have c6 := hU.nsp.c6
  have HU := (show Hid _ from hU)
  clear hBk hU
  go_wp2_with fail
  go_ret
  exact ⟨rfl, HU.out⟩

end Go.Proofs.Qxb6002915a
