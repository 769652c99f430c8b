/-
  WHAT THE CURSOR HOLDS, and how it is kept.
-/
import Derived.Test.Qxb6002915aSmalls
namespace Go.Proofs.Qxb6002915a
open Go.RowKit
set_option linter.unusedVariables false

theorem Core.drew {w : World} {cb tb lb : Nat} {a : Option Addr} {n cp : Nat} {f : Nat → Int} {nb : Bool} (h : Core w cb tb lb a n cp f nb) : Core w.drew cb tb lb a n cp f nb := ⟨h.c0, h.c1, h.ct, h.ln, h.nt, h.nl, h.le⟩
theorem Core.drewN {w : World} {cb tb lb : Nat} {a : Option Addr} {n cp : Nat} {f : Nat → Int} {nb : Bool} (h : Core w cb tb lb a n cp f nb) (k : Nat) : Core (w.drewN k) cb tb lb a n cp f nb := ⟨h.c0, h.c1, h.ct, h.ln, h.nt, h.nl, h.le⟩
/-- the cursor's place -/
structure Pos (w : World) (cb p c : Nat) : Prop where
  c2 : w.cell? ⟨cb, 2, none⟩ = some (.int .i64 (p : Int))
  c3 : w.cell? ⟨cb, 3, none⟩ = some (.int .i64 (c : Int))
  f2 : w.frozen? ⟨cb, 2, none⟩ = false
  f3 : w.frozen? ⟨cb, 3, none⟩ = false
/-- what nonspace set -/
structure Nsp (w : World) (cb : Nat) (F C I : Int) (bl : Bool) : Prop where
  c4 : w.cell? ⟨cb, 4, none⟩ = some (.int .i64 F)
  c5 : w.cell? ⟨cb, 5, none⟩ = some (.int .i64 C)
  c6 : w.cell? ⟨cb, 6, none⟩ = some (.int .i64 I)
  c7 : w.cell? ⟨cb, 7, none⟩ = some (.bool bl)
  f4 : w.frozen? ⟨cb, 4, none⟩ = false
  f5 : w.frozen? ⟨cb, 5, none⟩ = false
  f6 : w.frozen? ⟨cb, 6, none⟩ = false
  f7 : w.frozen? ⟨cb, 7, none⟩ = false
theorem Pos.drew {w : World} {cb p c : Nat} (h : Pos w cb p c) : Pos w.drew cb p c := ⟨h.c2, h.c3, h.f2, h.f3⟩
theorem Pos.drewN {w : World} {cb p c : Nat} (h : Pos w cb p c) (k : Nat) : Pos (w.drewN k) cb p c := ⟨h.c2, h.c3, h.f2, h.f3⟩
theorem Nsp.drew {w : World} {cb : Nat} {F C I : Int} {bl : Bool} (h : Nsp w cb F C I bl) : Nsp w.drew cb F C I bl := ⟨h.c4, h.c5, h.c6, h.c7, h.f4, h.f5, h.f6, h.f7⟩
theorem Nsp.drewN {w : World} {cb : Nat} {F C I : Int} {bl : Bool} (h : Nsp w cb F C I bl) (k : Nat) : Nsp (w.drewN k) cb F C I bl := ⟨h.c4, h.c5, h.c6, h.c7, h.f4, h.f5, h.f6, h.f7⟩
theorem set_other {w : World} {cb b o j : Nat} {v y : Value} (h : w.cell? ⟨b, o, none⟩ = some y) (hne : b ≠ cb) : (w.setCell ⟨cb, j, none⟩ v).cell? ⟨b, o, none⟩ = some y :=
  (World.cell?_of_block (w := w) (Below.heap_setCell _ _ _ b hne)).trans h
theorem Core.set {w : World} {cb tb lb : Nat} {a : Option Addr} {n cp : Nat} {f : Nat → Int} {nb : Bool} (h : Core w cb tb lb a n cp f nb) (j : Nat) (hj : 2 ≤ j) (v : Value) : Core (w.setCell ⟨cb, j, none⟩ v) cb tb lb a n cp f nb := by
  have h0 := h.c0
  have h1 := h.c1
  exact ⟨by simp [go_sem, h0], by simp [go_sem, h1], set_other h.ct h.nt, h.ln.block (fun _ => Below.heap_setCell _ _ _ lb h.nl), h.nt, h.nl, h.le⟩
theorem grown_set {w w' : World} {cb : Nat} (h : w.grownBy w' (some cb)) (j : Nat) (v : Value) : w.grownBy (w'.setCell ⟨cb, j, none⟩ v) (some cb) :=
  ⟨h.os, h.tape, h.output, Nat.le_trans h.size (by simp [World.setCell]), fun k hk hne => (Below.heap_setCell _ _ _ k (fun e => hne (by rw [e]))).trans (h.block k hk hne)⟩
theorem grown_refl (w : World) (cb : Nat) : w.grownBy w (some cb) := ⟨rfl, rfl, rfl, Nat.le_refl _, fun _ _ _ => rfl⟩
theorem grown_drew {w w' : World} {cb : Nat} (h : w.grownBy w' (some cb)) : w.grownBy w'.drew (some cb) := ⟨h.os, h.tape, h.output, h.size, h.block⟩
theorem grown_drewN {w w' : World} {cb : Nat} (h : w.grownBy w' (some cb)) (k : Nat) : w.grownBy (w'.drewN k) (some cb) := ⟨h.os, h.tape, h.output, h.size, h.block⟩
theorem grown_trans {a b c : World} {cb : Nat} (h : a.grownBy b (some cb)) (k : b.grownBy c (some cb)) : a.grownBy c (some cb) :=
  ⟨k.os.trans h.os, k.tape.trans h.tape, k.output.trans h.output, Nat.le_trans h.size k.size, fun i hi hs => (k.block i (Nat.lt_of_lt_of_le hi h.size) hs).trans (h.block i hi hs)⟩
theorem Pos.set4 {w : World} {cb p c : Nat} (h : Pos w cb p c) (j : Nat) (hj : 4 ≤ j) (v : Value) : Pos (w.setCell ⟨cb, j, none⟩ v) cb p c := by
  have h0 := h.c2
  have h1 := h.c3
  have h2 := h.f2
  have h3 := h.f3
  exact ⟨by simp [go_sem, h0], by simp [go_sem, h1], by simp [go_sem, h2], by simp [go_sem, h3]⟩
theorem Nsp.all {w : World} {cb : Nat} {F C I : Int} {bl : Bool} (h : Nsp w cb F C I bl) (F' C' I' : Int) (bl' : Bool) :
    Nsp ((((w.setCell ⟨cb, 4, none⟩ (.int .i64 F')).setCell ⟨cb, 5, none⟩ (.int .i64 C')).setCell ⟨cb, 6, none⟩ (.int .i64 I')).setCell ⟨cb, 7, none⟩ (.bool bl')) cb F' C' I' bl' := by
  obtain ⟨h4, h5, h6, h7, g4, g5, g6, g7⟩ := h
  exact ⟨by simp [go_sem, h4], by simp [go_sem, h5], by simp [go_sem, h6], by simp [go_sem, h7], by simp [go_sem, g4], by simp [go_sem, g5], by simp [go_sem, g6], by simp [go_sem, g7]⟩

end Go.Proofs.Qxb6002915a
