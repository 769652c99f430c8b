/-
  THE CONTRACT of ZZGoesOn.
-/
import Derived.Test.Qxb6002915aGoesAny
namespace Go.Proofs.Qxb6002915a
open Go.RowKit
set_option linter.unusedVariables false

/-- what both sides answer -/
def ansV (g : Bool × Nat × Nat) (F C c : Nat) (bl : Bool) : Value := .tuple #[.bool g.1, .int .i64 (g.2.1 : Int), .int .i64 (g.2.2 : Int), .int .i64 (F : Int), .int .i64 (C : Int), .int .i64 ((C : Int) - (c : Int)), .bool bl]
theorem line_lt {w : World} {lb : Nat} {a : Option Addr} {n : Nat} {f : Nat → Int} (hl : Line w lb a n f) (h : 0 < n) : lb < w.heap.size := cell_lt ((hl h).2 0 h)
set_option maxRecDepth 100000 in
set_option maxHeartbeats 4000000 in
theorem shim_any (lb : Nat) (a : Option Addr) (n cp : Nat) (f : Nat → Int) (nb : Bool) (p c F C : Nat) (F0 C0 I0 : Int) (bl0 : Bool) (kind width : Int) (empty : Bool) (html : Int) (w : World) (hl : Line w lb a n f) (hlb : lb ≤ w.heap.size) (le : n ≤ 1048576) (hs : scan f (n - p) p c = (F, C)) (hc : c ≤ 1073741824) (hp : p ≤ 9223372036854775807) :
    Calls Try.prog 8 #[.slice a n cp, .bool nb, .int .i64 (p : Int), .int .i64 (c : Int), .int .i64 F0, .int .i64 C0, .int .i64 I0, .bool bl0, .int .u8 kind, .int .i64 width, .bool empty, .int .i64 html] w fun e w' => e = .returned (ansV (goes f n nb p c F C kind width empty html) F C c (atF f n nb F == 0)) ∧ Below w.heap.size w w' := by
  have HS : Hid (scan f (n - p) p c = (F, C)) := hs
  have HL : Hid (Line w lb a n f) := hl
  clear hs hl
  go_enter Try.func8, Try.ntmps8
  go_wp2_with fail
  refine (goesOn_any (w.heap.size + 1) w.heap.size lb (w.heap.size + 1 + 1) a n cp f nb p c F C F0 C0 I0 bl0 kind width empty html _ ?_ ?_ ?_ ?_ (by omega) HS.out hc hp).mono ?_
  · refine ⟨by simp [go_sem], by simp [go_sem], by simp [go_sem], HL.out.block (fun h => ?_), by omega, by omega, le⟩
    have := line_lt HL.out h
    exact ((((Below.refl w.heap.size w).alloc (Nat.le_refl _) _).alloc (by simp) _).alloc (by simp; omega) _).block lb this
  · exact ⟨by simp [go_sem], by simp [go_sem], by simp [go_sem], by simp [go_sem]⟩
  · exact ⟨by simp [go_sem], by simp [go_sem], by simp [go_sem], by simp [go_sem], by simp [go_sem], by simp [go_sem], by simp [go_sem], by simp [go_sem]⟩
  · exact ⟨by simp [go_sem], by simp [go_sem], by simp [go_sem], by simp [go_sem]⟩
  · rintro e w1 ⟨rfl, hU⟩
    have hb : Below w.heap.size w w1 := ((((Below.refl w.heap.size w).alloc (Nat.le_refl _) _).alloc (by simp) _).alloc (by simp; omega) _).grown hU.grown (by simp; omega) (fun j hj => by cases hj; omega)
    have c2 := hU.pos.c2
    have c3 := hU.pos.c3
    have c4 := hU.nsp.c4
    have c5 := hU.nsp.c5
    have c6 := hU.nsp.c6
    have c7 := hU.nsp.c7
    clear hU HS HL
    go_wp2_with fail
    go_quiet (fail)
    go_wp2
    refine bodyPost_ret (v := ansV (goes f n nb p c F C kind width empty html) F C c (atF f n nb F == 0)) (by simp [results, Try.results8, go_sem, ansV]) rfl ⟨rfl, ?_⟩
    exact ⟨hb.os, hb.tape, hb.output, hb.size, hb.block⟩
end Go.Proofs.Qxb6002915a
