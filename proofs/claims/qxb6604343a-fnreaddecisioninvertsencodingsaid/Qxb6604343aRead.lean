/-
  CONTRACTS of (*fieldReader).number, count, field.
-/
import Derived.Test.Qxb6604343aDec
import Derived.Deep.QuietTactic
import Derived.BigQuiet
import Derived.Deep.RegionWith
import Derived.Deep.RegionHeld3
import Derived.RegionTactic
import Derived.BigRegion
import Derived.Deep.OwnRows
namespace Go.Proofs.Qxb6604343a
open Go.RowKit
open Wire
set_option linter.unusedVariables false

theorem cell_lt {w : World} {b o : Nat} {v : Value} (h : w.cell? ⟨b, o, none⟩ = some v) : b < w.heap.size := by
  by_cases hb : b < w.heap.size
  · exact hb
  · have : w.heap[b]? = none := by simp; omega
    simp [World.cell?, this] at h
theorem cell_turn {w w' : World} {r b o : Nat} {v : Value} (hg : w.grownBy w' (some r)) (h : w.cell? ⟨b, o, none⟩ = some v) (hne : b ≠ r) : w'.cell? ⟨b, o, none⟩ = some v :=
  (World.cell?_of_block (w := w) (hg.block b (cell_lt h) (fun e => hne (Option.some.inj e)))).trans h
/-- the reader at place a of the body -/
structure Rd (w : World) (rb bb n c a : Nat) : Prop where
  c0 : w.cell? ⟨rb, 0, none⟩ = some (.slice (some ⟨bb, 0, none⟩) n c)
  c1 : w.cell? ⟨rb, 1, none⟩ = some (.int .i64 (a : Int))
  c2 : w.cell? ⟨rb, 2, none⟩ = some (.bool true)
  f1 : w.frozen? ⟨rb, 1, none⟩ = false
  f2 : w.frozen? ⟨rb, 2, none⟩ = false
theorem Body.turn {w w' : World} {bb n rb : Nat} {T : List Nat} (h : Body w bb n T) (hg : w.grownBy w' (some rb)) (hne : bb ≠ rb) : Body w' bb n T :=
  ⟨h.len, h.le, fun j hj => cell_turn hg (h.cell j hj) hne⟩
theorem Body.block {w w' : World} {bb n : Nat} {T : List Nat} (h : Body w bb n T) (e : w'.heap[bb]? = w.heap[bb]?) : Body w' bb n T :=
  ⟨h.len, h.le, fun j hj => (World.cell?_of_block (w := w) e).trans (h.cell j hj)⟩
theorem Rd.block {w w' : World} {rb bb n c a : Nat} (h : Rd w rb bb n c a) (e : w'.heap[rb]? = w.heap[rb]?) : Rd w' rb bb n c a :=
  ⟨(World.cell?_of_block (w := w) e).trans h.c0, (World.cell?_of_block (w := w) e).trans h.c1, (World.cell?_of_block (w := w) e).trans h.c2, (World.frozen?_of_block (w := w) e).trans h.f1, (World.frozen?_of_block (w := w) e).trans h.f2⟩
theorem Rd.moved {w : World} {rb bb n c a : Nat} (h : Rd w rb bb n c a) (a' : Nat) : Rd ((w.setCell ⟨rb, 1, none⟩ (.int .i64 (a' : Int))).setCell ⟨rb, 2, none⟩ (.bool true)) rb bb n c a' := by
  have h0 := h.c0
  have h1 := h.c1
  have h2 := h.c2
  have g1 := h.f1
  have g2 := h.f2
  exact ⟨by simp [go_sem, h0], by simp [go_sem, h1], by simp [go_sem, h2], by simp [go_sem, g1], by simp [go_sem, g2]⟩
theorem grown_cells (w : World) (rb : Nat) (u v : Value) : w.grownBy ((w.setCell ⟨rb, 1, none⟩ u).setCell ⟨rb, 2, none⟩ v) (some rb) :=
  ⟨rfl, rfl, rfl, by simp [World.setCell], fun k hk hne => (Below.heap_setCell _ _ _ k (fun e => hne (by rw [e]))).trans (Below.heap_setCell _ _ _ k (fun e => hne (by rw [e])))⟩

theorem grown_end (w : World) (rb nq : Nat) (u v : Value) : w.grownBy (((w.drewN nq).setCell ⟨rb, 1, none⟩ u).setCell ⟨rb, 2, none⟩ v) (some rb) := by
  have h := grown_cells (w.drewN nq) rb u v
  exact ⟨h.os, h.tape, h.output, h.size, h.block⟩
theorem rd_end {w : World} {rb bb n c a a' : Nat} {x : Int} (h : Rd w rb bb n c a) (nq : Nat) (hx : x = (a' : Int)) : Rd (((w.drewN nq).setCell ⟨rb, 1, none⟩ (.int .i64 x)).setCell ⟨rb, 2, none⟩ (.bool true)) rb bb n c a' := by
  subst hx
  exact Rd.moved (w := w.drewN nq) ⟨h.c0, h.c1, h.c2, h.f1, h.f2⟩ a'
set_option maxRecDepth 100000 in
set_option maxHeartbeats 1000000 in
theorem number_any (rb bb n c a v : Nat) (T rest : List Nat) (w : World) (hR : Rd w rb bb n c a) (hB : Body w bb n T) (hd : T.drop a = uv v ++ rest) (hv : v < 9223372036854775808) (hc : n ≤ c) (hc2 : c ≤ maxLen) :
    Calls Try.prog 27 #[.pointer (some ⟨rb, 0, none⟩)] w fun e w' => e = .returned (.int .i64 (v : Int)) ∧ Rd w' rb bb n c (a + (uv v).length) ∧ w.grownBy w' (some rb) := by
  have C := (show Hid (∀ w', Body w' bb n T → Calls Try.prog 29 #[.slice (some ⟨bb, 0, none⟩) n c, .int .i64 (a : Int)] w' fun e w'' => e = .returned (.tuple #[.int .i64 (v : Int), .int .i64 ((a + (uv v).length : Nat) : Int), .bool true]) ∧ w'' = w') from fun w' hB' => readNumber_any bb n a c v T rest w' hB' hd hv hc hc2)
  have c0 := hR.c0
  have c1 := hR.c1
  have c2 := hR.c2
  have f1 := hR.f1
  have f2 := hR.f2
  have HR : Hid (Rd w rb bb n c a) := hR
  have HB : Hid (Body w bb n T) := hB
  clear hd hR hB
  generalize (uv v).length = q at C ⊢
  go_enter Try.func27, Try.ntmps27
  go_wp2_with fail
  go_quiet ((go_at_call 29; exact Calls.quiet_of_same (C.out _ ⟨HB.out.len, HB.out.le, HB.out.cell⟩)))
  go_wp2
  go_ret
  exact ⟨rfl, rd_end HR.out nq (by omega), grown_end w rb nq _ _⟩
set_option maxRecDepth 100000 in
set_option maxHeartbeats 1000000 in
theorem field_any (rb bb n c a : Nat) (s : ByteArray) (T rest : List Nat) (w : World) (hR : Rd w rb bb n c a) (hB : Body w bb n T) (hd : T.drop a = fld s ++ rest) (hc : n ≤ c) (hc2 : c ≤ maxLen) :
    Calls Try.prog 25 #[.pointer (some ⟨rb, 0, none⟩)] w fun e w' => e = .returned (.string s) ∧ Rd w' rb bb n c (a + (fld s).length) ∧ w.grownBy w' (some rb) := by
  have C := (show Hid (∀ w', Body w' bb n T → Calls Try.prog 28 #[.slice (some ⟨bb, 0, none⟩) n c, .int .i64 (a : Int)] w' fun e w'' => e = .returned (.tuple #[.string s, .int .i64 ((a + (fld s).length : Nat) : Int), .bool true]) ∧ w'' = w') from fun w' hB' => readField_any bb n a c s T rest w' hB' hd hc hc2)
  have c0 := hR.c0
  have c1 := hR.c1
  have c2 := hR.c2
  have f1 := hR.f1
  have f2 := hR.f2
  have HR : Hid (Rd w rb bb n c a) := hR
  have HB : Hid (Body w bb n T) := hB
  clear hd hR hB
  generalize (fld s).length = q at C ⊢
  go_enter Try.func25, Try.ntmps25
  go_wp2_with fail
  go_quiet ((go_at_call 28; exact Calls.quiet_of_same (C.out _ ⟨HB.out.len, HB.out.le, HB.out.cell⟩)))
  go_wp2
  go_ret
  exact ⟨rfl, rd_end HR.out nq (by omega), grown_end w rb nq _ _⟩
set_option maxRecDepth 100000 in
set_option maxHeartbeats 1000000 in
theorem count_any (rb bb n c a v : Nat) (T rest : List Nat) (w : World) (hR : Rd w rb bb n c a) (hB : Body w bb n T) (hd : T.drop a = uv v ++ rest) (hv : 3 * v ≤ rest.length) (hc : n ≤ c) (hc2 : c ≤ maxLen) :
    Calls Try.prog 26 #[.pointer (some ⟨rb, 0, none⟩), .int .i64 3] w fun e w' => e = .returned (.int .i64 (v : Int)) ∧ Rd w' rb bb n c (a + (uv v).length) ∧ w.grownBy w' (some rb) := by
  obtain ⟨hl1, hl2⟩ := drop_len hB.len hd
  have hle := hB.le
  have C := (show Hid (Calls Try.prog 27 #[.pointer (some ⟨rb, 0, none⟩)] w fun e w' => e = .returned (.int .i64 (v : Int)) ∧ Rd w' rb bb n c (a + (uv v).length) ∧ w.grownBy w' (some rb)) from number_any rb bb n c a v T rest w hR hB hd (by omega) hc hc2)
  have hl3 : a + (uv v).length + 3 * v ≤ n := by omega
  clear hd hl1 hv
  generalize (uv v).length = q at C hl3 ⊢
  go_enter Try.func26, Try.ntmps26
  go_wp2_with fail
  refine C.out.mono ?_
  rintro e w1 ⟨rfl, hR1, hg1⟩
  have c0 := hR1.c0
  have c1 := hR1.c1
  have d1 : (v : Int) ≤ ((n : Int) - ((a + q : Nat) : Int)) / 3 := by omega
  have d0 : (0 : Int) ≤ (n : Int) - ((a + q : Nat) : Int) := by omega
  go_wp2_with fail
  go_quiet (fail)
  go_wp2
  go_ret
  exact ⟨rfl, ⟨hR1.c0, hR1.c1, hR1.c2, hR1.f1, hR1.f2⟩, ⟨hg1.os, hg1.tape, hg1.output, hg1.size, hg1.block⟩⟩
end Go.Proofs.Qxb6604343a
