/-
  goesOn AT EVERY KIND.
-/
import Derived.Test.Qxb6002915aGoesItem
import Derived.Test.Qxb6002915aGoesCode
import Derived.Test.Qxb6002915aGoesRest
namespace Go.Proofs.Qxb6002915a
open Go.RowKit
set_option linter.unusedVariables false

theorem goesOn_any (cb tb lb bb : Nat) (a : Option Addr) (n cp : Nat) (f : Nat → Int) (nb : Bool) (p c F C : Nat) (F0 C0 I0 : Int) (bl0 : Bool) (kind : Int) (width : Int) (empty : Bool) (html : Int) (w : World) (hC : Core w cb tb lb a n cp f nb) (hP : Pos w cb p c) (hN : Nsp w cb F0 C0 I0 bl0)
    (hB : Blk w bb kind width empty html) (hne : bb ≠ cb) (hs : scan f (n - p) p c = (F, C)) (hc : c ≤ 1073741824) (hp : p ≤ 9223372036854775807) :
    Calls Try.prog 14 #[.pointer (some ⟨cb, 0, none⟩), .pointer (some ⟨bb, 0, none⟩)] w fun e w' => e = .returned (.bool (goes f n nb p c F C kind width empty html).1) ∧ Cu w w' cb tb lb a n cp f nb (goes f n nb p c F C kind width empty html).2.1 (goes f n nb p c F C kind width empty html).2.2 (F : Int) (C : Int) ((C : Int) - (c : Int)) (atF f n nb F == 0) := by
  by_cases k1 : kind = 1
  · subst k1; exact goesOn_quote cb tb lb bb a n cp f nb p c F C F0 C0 I0 bl0 width empty html w hC hP hN hB hne hs hc hp
  · by_cases k2 : kind = 2
    · subst k2; exact goesOn_item cb tb lb bb a n cp f nb p c F C F0 C0 I0 bl0 width empty html w hC hP hN hB hne hs hc hp
    · by_cases k5 : kind = 5
      · subst k5; exact goesOn_code cb tb lb bb a n cp f nb p c F C F0 C0 I0 bl0 width empty html w hC hP hN hB hne hs hc hp
      · by_cases k6 : kind = 6
        · subst k6; exact goesOn_html cb tb lb bb a n cp f nb p c F C F0 C0 I0 bl0 width empty html w hC hP hN hB hne hs hc hp
        · by_cases k3 : kind = 3
          · subst k3; exact goesOn_par cb tb lb bb a n cp f nb p c F C F0 C0 I0 bl0 width empty html w hC hP hN hB hne hs hc hp
          · exact goesOn_other cb tb lb bb a n cp f nb p c F C F0 C0 I0 bl0 kind width empty html w hC hP hN hB hne hs hc hp k1 k2 k5 k6 k3
end Go.Proofs.Qxb6002915a
