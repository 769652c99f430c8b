/-
  THE CONTRACTS of (*cursor).advance: by columns, and over a scan's bytes.
-/
import Derived.Test.Qxb6002915aCur
namespace Go.Proofs.Qxb6002915a
open Go.RowKit
set_option linter.unusedVariables false

theorem Pos.moved {w : World} {cb p c : Nat} (h : Pos w cb p c) (p' c' : Nat) {x y : Int} (hx : x = (p' : Int)) (hy : y = (c' : Int)) : Pos ((w.setCell ⟨cb, 2, none⟩ (.int .i64 x)).setCell ⟨cb, 3, none⟩ (.int .i64 y)) cb p' c' := by
  subst hx hy
  obtain ⟨h0, h1, h2, h3⟩ := h
  exact ⟨by simp [go_sem, h0], by simp [go_sem, h1], by simp [go_sem, h2], by simp [go_sem, h3]⟩
theorem Pos.col {w : World} {cb p c : Nat} (h : Pos w cb p c) (c' : Nat) {y : Int} (hy : y = (c' : Int)) : Pos (w.setCell ⟨cb, 3, none⟩ (.int .i64 y)) cb p c' := by
  subst hy
  obtain ⟨h0, h1, h2, h3⟩ := h
  exact ⟨by simp [go_sem, h0], by simp [go_sem, h1], by simp [go_sem, h2], by simp [go_sem, h3]⟩
theorem Pos.pos {w : World} {cb p c : Nat} (h : Pos w cb p c) (p' : Nat) {y : Int} (hy : y = (p' : Int)) : Pos (w.setCell ⟨cb, 2, none⟩ (.int .i64 y)) cb p' c := by
  subst hy
  obtain ⟨h0, h1, h2, h3⟩ := h
  exact ⟨by simp [go_sem, h0], by simp [go_sem, h1], by simp [go_sem, h2], by simp [go_sem, h3]⟩
theorem Nsp.set {w : World} {cb : Nat} {F C I : Int} {bl : Bool} (h : Nsp w cb F C I bl) (j : Nat) (hj : j < 4) (v : Value) : Nsp (w.setCell ⟨cb, j, none⟩ v) cb F C I bl := by
  obtain ⟨h4, h5, h6, h7, g4, g5, g6, g7⟩ := h
  have e4 : j ≠ 4 := by omega
  have e5 : j ≠ 5 := by omega
  have e6 : j ≠ 6 := by omega
  have e7 : j ≠ 7 := by omega
  exact ⟨by simp [go_sem, h4], by simp [go_sem, h5], by simp [go_sem, h6], by simp [go_sem, h7], by simp [go_sem, g4], by simp [go_sem, g5], by simp [go_sem, g6], by simp [go_sem, g7]⟩

set_option maxRecDepth 100000 in
set_option maxHeartbeats 2000000 in
theorem advance_no (cb tb lb : Nat) (a : Option Addr) (n cp : Nat) (f : Nat → Int) (nb : Bool) (p c : Nat) (F C I : Int) (bl : Bool) (k : Int) (t : Bool) (w : World) (hC : Core w cb tb lb a n cp f nb) (hP : Pos w cb p c) (hN : Nsp w cb F C I bl)
    (hk : k ≤ 0 ∨ n ≤ p) :
    Calls Try.prog 22 #[.pointer (some ⟨cb, 0, none⟩), .int .i64 k, .bool t] w fun e w' => e = .returned (.tuple #[]) ∧ Core w' cb tb lb a n cp f nb ∧ Pos w' cb p c ∧ Nsp w' cb F C I bl ∧ w.grownBy w' (some cb) := by
  have c2 := hP.c2
  have c0 := hC.c0
  have hle := hC.le
  have HC : Hid (Core w cb tb lb a n cp f nb) := hC
  clear hC
  go_enter Try.func22, Try.ntmps22
  go_wp2_with fail
  go_loopw [1] (fun kv wr => kv = .int .i64 k ∧ wr = w) (fun _ _ => 0)
  case atStart => exact ⟨rfl, rfl⟩
  case round =>
    obtain ⟨rfl, rfl⟩ := hrel
    by_cases h : k ≤ 0
    · have hd : decide ((0 : Int) < k) = false := by simp; omega
      go_wp2_with fail
      go_quiet (fail)
      go_wp2_with fail
      go_end0
      exact ⟨rfl, HC.out.drewN _, hP.drewN _, hN.drewN _, grown_drewN (grown_refl _ _) _⟩
    · have hd : decide ((0 : Int) < k) = true := by simp; omega
      have i1 : ¬ (p : Int) < (n : Int) := by omega
      go_wp2_with fail
      go_quiet (fail)
      go_wp2_with fail
      go_end0
      exact ⟨rfl, HC.out.drewN _, hP.drewN _, hN.drewN _, grown_drewN (grown_refl _ _) _⟩

/-- the cursor whole, past the world w -/
structure Cu (w0 w : World) (cb tb lb : Nat) (a : Option Addr) (n cp : Nat) (f : Nat → Int) (nb : Bool) (p c : Nat) (F C I : Int) (bl : Bool) : Prop where
  core : Core w cb tb lb a n cp f nb
  pos : Pos w cb p c
  nsp : Nsp w cb F C I bl
  grown : w0.grownBy w (some cb)
theorem Cu.drewN {w0 w : World} {cb tb lb : Nat} {a : Option Addr} {n cp : Nat} {f : Nat → Int} {nb : Bool} {p c : Nat} {F C I : Int} {bl : Bool} (h : Cu w0 w cb tb lb a n cp f nb p c F C I bl) (k : Nat) : Cu w0 (w.drewN k) cb tb lb a n cp f nb p c F C I bl :=
  ⟨h.core.drewN k, h.pos.drewN k, h.nsp.drewN k, grown_drewN h.grown k⟩
theorem Cu.drew {w0 w : World} {cb tb lb : Nat} {a : Option Addr} {n cp : Nat} {f : Nat → Int} {nb : Bool} {p c : Nat} {F C I : Int} {bl : Bool} (h : Cu w0 w cb tb lb a n cp f nb p c F C I bl) : Cu w0 w.drew cb tb lb a n cp f nb p c F C I bl :=
  ⟨h.core.drew, h.pos.drew, h.nsp.drew, grown_drew h.grown⟩
theorem Cu.moved {w0 w : World} {cb tb lb : Nat} {a : Option Addr} {n cp : Nat} {f : Nat → Int} {nb : Bool} {p c : Nat} {F C I : Int} {bl : Bool} (h : Cu w0 w cb tb lb a n cp f nb p c F C I bl) (p' c' : Nat) {x y : Int} (hx : x = (p' : Int)) (hy : y = (c' : Int)) :
    Cu w0 ((w.setCell ⟨cb, 2, none⟩ (.int .i64 x)).setCell ⟨cb, 3, none⟩ (.int .i64 y)) cb tb lb a n cp f nb p' c' F C I bl :=
  ⟨(h.core.set 2 (by omega) _).set 3 (by omega) _, h.pos.moved p' c' hx hy, (h.nsp.set 2 (by omega) _).set 3 (by omega) _, grown_set (grown_set h.grown 2 _) 3 _⟩
theorem Cu.col {w0 w : World} {cb tb lb : Nat} {a : Option Addr} {n cp : Nat} {f : Nat → Int} {nb : Bool} {p c : Nat} {F C I : Int} {bl : Bool} (h : Cu w0 w cb tb lb a n cp f nb p c F C I bl) (c' : Nat) {y : Int} (hy : y = (c' : Int)) :
    Cu w0 (w.setCell ⟨cb, 3, none⟩ (.int .i64 y)) cb tb lb a n cp f nb p c' F C I bl :=
  ⟨h.core.set 3 (by omega) _, h.pos.col c' hy, h.nsp.set 3 (by omega) _, grown_set h.grown 3 _⟩
theorem Cu.posn {w0 w : World} {cb tb lb : Nat} {a : Option Addr} {n cp : Nat} {f : Nat → Int} {nb : Bool} {p c : Nat} {F C I : Int} {bl : Bool} (h : Cu w0 w cb tb lb a n cp f nb p c F C I bl) (p' : Nat) {y : Int} (hy : y = (p' : Int)) :
    Cu w0 (w.setCell ⟨cb, 2, none⟩ (.int .i64 y)) cb tb lb a n cp f nb p' c F C I bl :=
  ⟨h.core.set 2 (by omega) _, h.pos.pos p' hy, h.nsp.set 2 (by omega) _, grown_set h.grown 2 _⟩

set_option maxRecDepth 100000 in
set_option maxHeartbeats 8000000 in
theorem advance_yes (cb tb lb : Nat) (n cp : Nat) (f : Nat → Int) (nb : Bool) (p c : Nat) (F C I : Int) (bl : Bool) (t : Nat) (R : Nat × Nat) (w0 w : World) (hU : Cu w0 w cb tb lb (some ⟨lb, 0, none⟩) n cp f nb p c F C I bl)
    (hp : p < n) (ht : c < t) (ht2 : t ≤ 17179869184) (hR : cols f t (n - p) p c = R) :
    Calls Try.prog 22 #[.pointer (some ⟨cb, 0, none⟩), .int .i64 ((t : Int) - (c : Int)), .bool true] w fun e w' => e = .returned (.tuple #[]) ∧ Cu w0 w' cb tb lb (some ⟨lb, 0, none⟩) n cp f nb R.1 R.2 F C I bl := by
  have HR : Hid (cols f t (n - p) p c = R) := hR
  clear hR
  have hle := hU.core.le
  go_enter Try.func22, Try.ntmps22
  go_wp2_with fail
  go_loopw [1] (fun kv wr => ∃ (q d : Nat), kv = .int .i64 ((t : Int) - (d : Int)) ∧ q ≤ n ∧ d ≤ t ∧ Cu w0 wr cb tb lb (some ⟨lb, 0, none⟩) n cp f nb q d F C I bl ∧ Hid (cols f t (n - q) q d = R)) (fun kv _ => (intOf kv).toNat)
  case atStart => exact ⟨p, c, rfl, by omega, by omega, hU, HR⟩
  case round =>
    clear hU HR ht hp
    obtain ⟨q, d, rfl, hq, hd, hU, HQ⟩ := hrel
    have HU : Hid (Cu w0 wr cb tb lb (some ⟨lb, 0, none⟩) n cp f nb q d F C I bl) := hU
    have c0 := hU.core.c0
    have c2 := hU.pos.c2
    have c3 := hU.pos.c3
    have f2 := hU.pos.f2
    have f3 := hU.pos.f3
    by_cases hdt : d < t
    · have k1 : decide ((0 : Int) < (t : Int) - (d : Int)) = true := by simp; omega
      by_cases hlt : q < n
      · have i1 : (q : Int) < (n : Int) := by omega
        have cq := (hU.core.ln (by omega)).2 q hlt
        have hs := cols_step f t n q d hlt
        rw [HQ.out] at hs
        clear hU HQ
        by_cases h9 : f q = 9
        · have H9 : Hid (f q = 9) := h9
          rw [h9] at cq
          rw [h9, nxt_tab] at hs
          have HS : Hid (R = if t < d + (4 - d % 4) then (q, t) else cols f t (n - (q + 1)) (q + 1) (d + (4 - d % 4))) := hs
          clear hs h9
          go_wp2_with fail
          go_quiet (fail)
          have HV : Hid (Cu w0 (wr.drewN nq) cb tb lb (some ⟨lb, 0, none⟩) n cp f nb q d F C I bl) := HU.out.drewN nq
          generalize wr.drewN nq = wv at HV ⊢
          have cq1 := cq
          clear cq c0 k1 c2 c3 f2 f3 HU
          have cq : wv.cell? ⟨lb, q, none⟩ = some (.int .u8 9) := by rw [← H9.out]; exact (HV.out.core.ln (by omega)).2 q hlt
          have c0 := HV.out.core.c0
          have c2 := HV.out.pos.c2
          clear cq1
          go_wp2_with fail
          go_quiet (fail)
          have HX : Hid (Cu w0 (wv.drewN nq) cb tb lb (some ⟨lb, 0, none⟩) n cp f nb q d F C I bl) := HV.out.drewN nq
          generalize wv.drewN nq = wx at HX ⊢
          clear cq c0 c2 HV
          have c2 := HX.out.pos.c2
          have c3 := HX.out.pos.c3
          have f2 := HX.out.pos.f2
          have f3 := HX.out.pos.f3
          by_cases hm : t < d + (4 - d % 4)
          · have hR := HS.out
            rw [if_pos hm] at hR
            have HR : Hid (R = (q, t)) := hR
            clear HS hR
            have i2 : ¬ (4 : Int) - (d : Int) % 4 ≤ (t : Int) - (d : Int) := by omega
            have i3 : (t : Int) - (d : Int) < (4 : Int) - (d : Int) % 4 := by omega
            go_wp2_with fail
            go_roundw
            case rel => exact ⟨q, t, by go_num, hq, Nat.le_refl _, HX.out.col t (by omega), by rw [HR.out]; exact cols_there _ _ _ _⟩
            case measure => simp [intOf]; omega
          · have hR := HS.out
            rw [if_neg hm] at hR
            have HR : Hid (cols f t (n - (q + 1)) (q + 1) (d + (4 - d % 4)) = R) := hR.symm
            clear HS hR
            have i2 : (4 : Int) - (d : Int) % 4 ≤ (t : Int) - (d : Int) := by omega
            go_wp2_with fail
            have hmin : (if (4 : Int) - (d : Int) % 4 < (t : Int) - (d : Int) then (4 : Int) - (d : Int) % 4 else (t : Int) - (d : Int)) = (4 : Int) - (d : Int) % 4 := by split <;> omega
            simp only [hmin]
            go_roundw
            case rel => exact ⟨q + 1, d + (4 - d % 4), by go_num, by omega, by omega, (HX.out.col (d + (4 - d % 4)) (by omega)).posn (q + 1) (by omega), HR⟩
            case measure => simp [intOf]; omega
        · rw [nxt_other d h9, if_neg (by omega)] at hs
          have HS : Hid (cols f t (n - (q + 1)) (q + 1) (d + 1) = R) := hs.symm
          clear hs
          go_wp2_with fail
          go_quiet (fail)
          have HV : Hid (Cu w0 (wr.drewN nq) cb tb lb (some ⟨lb, 0, none⟩) n cp f nb q d F C I bl) := HU.out.drewN nq
          generalize wr.drewN nq = wv at HV ⊢
          clear cq c0 k1 c2 c3 f2 f3 HU
          have cq := (HV.out.core.ln (by omega)).2 q hlt
          have c0 := HV.out.core.c0
          have c2 := HV.out.pos.c2
          go_wp2_with fail
          go_quiet (fail)
          have HX : Hid (Cu w0 (wv.drewN nq) cb tb lb (some ⟨lb, 0, none⟩) n cp f nb q d F C I bl) := HV.out.drewN nq
          generalize wv.drewN nq = wx at HX ⊢
          clear cq c0 c2 HV
          have c2 := HX.out.pos.c2
          have c3 := HX.out.pos.c3
          have f2 := HX.out.pos.f2
          have f3 := HX.out.pos.f3
          go_wp2_with fail
          go_region
          have HY : Hid (Cu w0 ((wx.setCell ⟨cb, 2, none⟩ (.int .i64 ((q : Int) + 1))).setCell ⟨cb, 3, none⟩ (.int .i64 ((d : Int) + 1))).drew cb tb lb (some ⟨lb, 0, none⟩) n cp f nb (q + 1) (d + 1) F C I bl) := (HX.out.moved (q + 1) (d + 1) (by omega) (by omega)).drew
          generalize ((wx.setCell ⟨cb, 2, none⟩ (.int .i64 ((q : Int) + 1))).setCell ⟨cb, 3, none⟩ (.int .i64 ((d : Int) + 1))).drew = wy at HY ⊢
          clear c2 c3 f2 f3 HX
          go_wp2_with fail
          go_roundw
          case rel => exact ⟨q + 1, d + 1, by go_num, by omega, by omega, HY.out, HS⟩
          case measure => simp [intOf]; omega
      · have i1 : ¬ (q : Int) < (n : Int) := by omega
        have hR := HQ.out
        rw [show n - q = 0 by omega] at hR
        obtain rfl : R = (q, d) := hR.symm
        clear hU HQ hR
        go_wp2_with fail
        go_quiet (fail)
        go_wp2_with fail
        go_end0
        exact ⟨rfl, HU.out.drewN _⟩
    · have k1 : decide ((0 : Int) < (t : Int) - (d : Int)) = false := by simp; omega
      obtain rfl : d = t := by omega
      have hR := HQ.out
      rw [cols_there] at hR
      obtain rfl : R = (q, d) := hR.symm
      clear hU HQ hR
      go_wp2_with fail
      go_quiet (fail)
      go_wp2_with fail
      go_end0
      exact ⟨rfl, HU.out.drewN _⟩
set_option maxRecDepth 100000 in
set_option maxHeartbeats 8000000 in
theorem advance_scan (cb tb lb : Nat) (n cp : Nat) (f : Nat → Int) (nb : Bool) (p c G D : Nat) (F C I : Int) (bl : Bool) (w0 w : World) (hU : Cu w0 w cb tb lb (some ⟨lb, 0, none⟩) n cp f nb p c F C I bl)
    (hs : scan f (n - p) p c = (G, D)) (hc : c ≤ 1073741824) (hp : p < n) :
    Calls Try.prog 22 #[.pointer (some ⟨cb, 0, none⟩), .int .i64 ((G : Int) - (p : Int)), .bool false] w fun e w' => e = .returned (.tuple #[]) ∧ Cu w0 w' cb tb lb (some ⟨lb, 0, none⟩) n cp f nb G D F C I bl := by
  have hb := scan_bound hs
  have HR : Hid (scan f (n - p) p c = (G, D)) := hs
  clear hs
  have hle := hU.core.le
  go_enter Try.func22, Try.ntmps22
  go_wp2_with fail
  go_loopw [1] (fun kv wr => ∃ (q d : Nat), kv = .int .i64 ((G : Int) - (q : Int)) ∧ q ≤ G ∧ d ≤ D ∧ Cu w0 wr cb tb lb (some ⟨lb, 0, none⟩) n cp f nb q d F C I bl ∧ Hid (scan f (n - q) q d = (G, D))) (fun kv _ => (intOf kv).toNat)
  case atStart => exact ⟨p, c, rfl, by omega, by omega, hU, HR⟩
  case round =>
    clear hU HR
    have hG : G ≤ 1048576 := by omega
    have hD : D ≤ 4611686018427387904 := by omega
    clear hb hp hc
    obtain ⟨q, d, rfl, hq, hd, hU, HQ⟩ := hrel
    have HU : Hid (Cu w0 wr cb tb lb (some ⟨lb, 0, none⟩) n cp f nb q d F C I bl) := hU
    have c0 := hU.core.c0
    have c2 := hU.pos.c2
    have c3 := hU.pos.c3
    have f2 := hU.pos.f2
    have f3 := hU.pos.f3
    rcases scan_step HQ.out with ⟨rfl, rfl, _⟩ | ⟨hk, hqG, hby, hnext⟩
    · have k1 : decide ((0 : Int) < (q : Int) - (q : Int)) = false := by simp
      clear hU HQ
      go_wp2_with fail
      go_quiet (fail)
      go_wp2_with fail
      go_end0
      exact ⟨rfl, HU.out.drewN _⟩
    · have k1 : decide ((0 : Int) < (G : Int) - (q : Int)) = true := by simp; omega
      have hlt : q < n := by omega
      have i1 : (q : Int) < (n : Int) := by omega
      have cq := (hU.core.ln (by omega)).2 q hlt
      have hb2 := scan_bound hnext
      have hnx := nxt_gt d (f q)
      rw [show n - q - 1 = n - (q + 1) by omega] at hnext
      clear hU HQ
      by_cases h9 : f q = 9
      · have H9 : Hid (f q = 9) := h9
        rw [h9] at cq
        rw [h9, nxt_tab] at hnext
        rw [h9, nxt_tab] at hb2
        have HS : Hid (scan f (n - (q + 1)) (q + 1) (d + (4 - d % 4)) = (G, D)) := hnext
        have HB : Hid (d + (4 - d % 4) ≤ D) := hb2.2.2.1
        clear hnext h9 hb2 hnx hby
        go_wp2_with fail
        go_quiet (fail)
        have HV : Hid (Cu w0 (wr.drewN nq) cb tb lb (some ⟨lb, 0, none⟩) n cp f nb q d F C I bl) := HU.out.drewN nq
        generalize wr.drewN nq = wv at HV ⊢
        clear cq c0 k1 c2 c3 f2 f3 HU
        have cq : wv.cell? ⟨lb, q, none⟩ = some (.int .u8 9) := by rw [← H9.out]; exact (HV.out.core.ln (by omega)).2 q hlt
        have c0 := HV.out.core.c0
        have c2 := HV.out.pos.c2
        go_wp2_with fail
        go_quiet (fail)
        have HX : Hid (Cu w0 (wv.drewN nq) cb tb lb (some ⟨lb, 0, none⟩) n cp f nb q d F C I bl) := HV.out.drewN nq
        generalize wv.drewN nq = wx at HX ⊢
        clear cq c0 c2 HV
        have c2 := HX.out.pos.c2
        have c3 := HX.out.pos.c3
        have f2 := HX.out.pos.f2
        have f3 := HX.out.pos.f3
        go_wp2_with fail
        go_region
        have e2 : (d : Int) + (4 - (d : Int) % 4) = ((d + (4 - d % 4) : Nat) : Int) := by omega
        have HY : Hid (Cu w0 ((wx.setCell ⟨cb, 2, none⟩ (.int .i64 ((q : Int) + 1))).setCell ⟨cb, 3, none⟩ (.int .i64 ((d : Int) + (4 - (d : Int) % 4)))).drew cb tb lb (some ⟨lb, 0, none⟩) n cp f nb (q + 1) (d + (4 - d % 4)) F C I bl) := (HX.out.moved (q + 1) (d + (4 - d % 4)) (by omega) e2).drew
        generalize ((wx.setCell ⟨cb, 2, none⟩ (.int .i64 ((q : Int) + 1))).setCell ⟨cb, 3, none⟩ (.int .i64 ((d : Int) + (4 - (d : Int) % 4)))).drew = wy at HY ⊢
        clear c2 c3 f2 f3 HX e2
        go_wp2_with fail
        go_roundw
        case rel => exact ⟨q + 1, d + (4 - d % 4), by go_num, by omega, HB.out, HY.out, HS⟩
        case measure => simp [intOf]; omega
      · rw [nxt_other d h9] at hnext
        rw [nxt_other d h9] at hb2
        have HS : Hid (scan f (n - (q + 1)) (q + 1) (d + 1) = (G, D)) := hnext
        clear hnext hnx hby
        go_wp2_with fail
        go_quiet (fail)
        have HV : Hid (Cu w0 (wr.drewN nq) cb tb lb (some ⟨lb, 0, none⟩) n cp f nb q d F C I bl) := HU.out.drewN nq
        generalize wr.drewN nq = wv at HV ⊢
        clear cq c0 k1 c2 c3 f2 f3 HU
        have cq := (HV.out.core.ln (by omega)).2 q hlt
        have c0 := HV.out.core.c0
        have c2 := HV.out.pos.c2
        go_wp2_with fail
        go_quiet (fail)
        have HX : Hid (Cu w0 (wv.drewN nq) cb tb lb (some ⟨lb, 0, none⟩) n cp f nb q d F C I bl) := HV.out.drewN nq
        generalize wv.drewN nq = wx at HX ⊢
        clear cq c0 c2 HV
        have c2 := HX.out.pos.c2
        have c3 := HX.out.pos.c3
        have f2 := HX.out.pos.f2
        have f3 := HX.out.pos.f3
        go_wp2_with fail
        go_region
        have HY : Hid (Cu w0 ((wx.setCell ⟨cb, 2, none⟩ (.int .i64 ((q : Int) + 1))).setCell ⟨cb, 3, none⟩ (.int .i64 ((d : Int) + 1))).drew cb tb lb (some ⟨lb, 0, none⟩) n cp f nb (q + 1) (d + 1) F C I bl) := (HX.out.moved (q + 1) (d + 1) (by omega) (by omega)).drew
        generalize ((wx.setCell ⟨cb, 2, none⟩ (.int .i64 ((q : Int) + 1))).setCell ⟨cb, 3, none⟩ (.int .i64 ((d : Int) + 1))).drew = wy at HY ⊢
        clear c2 c3 f2 f3 HX
        go_wp2_with fail
        go_roundw
        case rel => exact ⟨q + 1, d + 1, by go_num, by omega, by omega, HY.out, HS⟩
        case measure => simp [intOf]; omega

/-- by columns, whatever the place -/
theorem advance_cols (cb tb lb : Nat) (a : Option Addr) (n cp : Nat) (f : Nat → Int) (nb : Bool) (p c : Nat) (F C I : Int) (bl : Bool) (k : Int) (w0 w : World) (hU : Cu w0 w cb tb lb a n cp f nb p c F C I bl) (hc : c ≤ 4294967296) (hk : k ≤ 4294967296) :
    Calls Try.prog 22 #[.pointer (some ⟨cb, 0, none⟩), .int .i64 k, .bool true] w fun e w' => e = .returned (.tuple #[]) ∧ Cu w0 w' cb tb lb a n cp f nb (colsK f n p c k).1 (colsK f n p c k).2 F C I bl := by
  by_cases h : k ≤ 0 ∨ n ≤ p
  · rw [colsK_no h]
    refine (advance_no cb tb lb a n cp f nb p c F C I bl k true w hU.core hU.pos hU.nsp h).mono ?_
    rintro e w' ⟨rfl, h1, h2, h3, h4⟩
    exact ⟨rfl, h1, h2, h3, grown_trans hU.grown h4⟩
  · obtain ⟨rfl, _⟩ := hU.core.ln (by omega)
    have e : colsK f n p c k = cols f (c + k.toNat) (n - p) p c := if_neg (by omega)
    have e2 : k = ((c + k.toNat : Nat) : Int) - (c : Int) := by omega
    rw [e]
    have h2 := advance_yes cb tb lb n cp f nb p c F C I bl (c + k.toNat) _ w0 w hU (by omega) (by omega) (by omega) rfl
    rw [← e2] at h2
    exact h2
/-- over a scan, whatever the place -/
theorem advance_over (cb tb lb : Nat) (a : Option Addr) (n cp : Nat) (f : Nat → Int) (nb : Bool) (p c G D : Nat) (F C I : Int) (bl : Bool) (w0 w : World) (hU : Cu w0 w cb tb lb a n cp f nb p c F C I bl)
    (hs : scan f (n - p) p c = (G, D)) (hc : c ≤ 1073741824) :
    Calls Try.prog 22 #[.pointer (some ⟨cb, 0, none⟩), .int .i64 ((G : Int) - (p : Int)), .bool false] w fun e w' => e = .returned (.tuple #[]) ∧ Cu w0 w' cb tb lb a n cp f nb G D F C I bl := by
  by_cases h : n ≤ p
  · rw [show n - p = 0 by omega] at hs
    cases hs
    refine (advance_no cb tb lb a n cp f nb p c F C I bl _ false w hU.core hU.pos hU.nsp (.inr h)).mono ?_
    rintro e w' ⟨rfl, h1, h2, h3, h4⟩
    exact ⟨rfl, h1, h2, h3, grown_trans hU.grown h4⟩
  · obtain ⟨rfl, _⟩ := hU.core.ln (by omega)
    exact advance_scan cb tb lb n cp f nb p c G D F C I bl w0 w hU hs hc (by omega)
end Go.Proofs.Qxb6002915a
