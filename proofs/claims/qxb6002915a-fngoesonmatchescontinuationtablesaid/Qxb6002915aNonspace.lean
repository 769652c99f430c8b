/-
  THE CONTRACT of (*cursor).nonspace.
-/
import Derived.Test.Qxb6002915aCur
namespace Go.Proofs.Qxb6002915a
open Go.RowKit
set_option linter.unusedVariables false

theorem wrap_sub {c d : Nat} (h : (c : Int) ≤ (d : Int)) (h2 : (d : Int) ≤ 4611686018427387904) : IntKind.i64.wrap ((d : Int) - (c : Int)) = (d : Int) - (c : Int) := by
  rw [IntKind.wrap_i64]; omega
set_option maxRecDepth 100000 in
set_option maxHeartbeats 8000000 in
theorem nonspace_any (cb tb lb : Nat) (a : Option Addr) (n cp : Nat) (f : Nat → Int) (nb : Bool) (p c F C : Nat) (F0 C0 I0 : Int) (bl0 : Bool) (w : World) (hC : Core w cb tb lb a n cp f nb) (hP : Pos w cb p c) (hN : Nsp w cb F0 C0 I0 bl0)
    (hs : scan f (n - p) p c = (F, C)) (hc : c ≤ 1073741824) (hp : p ≤ 9223372036854775807) :
    Calls Try.prog 20 #[.pointer (some ⟨cb, 0, none⟩)] w fun e w' => e = .returned (.tuple #[]) ∧ Core w' cb tb lb a n cp f nb ∧ Pos w' cb p c ∧ Nsp w' cb (F : Int) (C : Int) ((C : Int) - (c : Int)) (atF f n nb F == 0) ∧ w.grownBy w' (some cb) := by
  have hb := scan_bound hs
  have hle := hC.le
  have c2 := hP.c2
  have c3 := hP.c3
  have HS : Hid (scan f (n - p) p c = (F, C)) := hs
  clear hs
  go_enter Try.func20, Try.ntmps20
  go_wp2_with fail
  go_quiet (fail)
  have hC1 := hC.drewN nq
  have hP1 := hP.drewN nq
  have hN1 := hN.drewN nq
  have hg1 := grown_drewN (grown_refl w cb) nq
  generalize w.drewN nq = w1 at hC1 hP1 hN1 hg1 ⊢
  clear c2 c3
  go_wp2_with fail
  go_loop [2, 3, 4] (fun iv dv tv => ∃ (q d : Nat), iv = .int .i64 (q : Int) ∧ dv = .int .i64 (d : Int) ∧ tv = .int .i64 ((4 : Int) - ((d % 4 : Nat) : Int)) ∧ (q = p ∨ q ≤ n) ∧ d ≤ C ∧ Hid (scan f (n - q) q d = (F, C))) (fun iv _ _ => n - (intOf iv).toNat)
  case atStart => exact ⟨p, c, rfl, rfl, by go_num, .inl rfl, by omega, HS⟩
  case round =>
    obtain ⟨q, d, rfl, rfl, rfl, hq, hd, HQ⟩ := hrel
    clear HS
    have A := (show Hid (∀ w', Core w' cb tb lb a n cp f nb → Calls Try.prog 21 #[.pointer (some ⟨cb, 0, none⟩), .int .i64 (q : Int)] w' fun e w'' => e = .returned (.int .u8 (atF f n nb q)) ∧ w'' = w') from fun w' h' => at_any cb tb lb a n cp f nb q w' h')
    rcases scan_step HQ.out with ⟨rfl, rfl, hend⟩ | ⟨hk, hlt, hby, hnext⟩
    · have h32 : atF f n nb q ≠ 32 := by unfold atF; split; (rcases hend with h | h; (omega); (exact h.1)); (split <;> decide)
      have h9 : atF f n nb q ≠ 9 := by unfold atF; split; (rcases hend with h | h; (omega); (exact h.2)); (split <;> decide)
      obtain ⟨b, hb2⟩ : ∃ b, atF f n nb q = b := ⟨_, rfl⟩
      rw [hb2] at h32 h9
      have HB : Hid (atF f n nb q = b) := hb2
      have A := (show Hid (∀ w', Core w' cb tb lb a n cp f nb → Calls Try.prog 21 #[.pointer (some ⟨cb, 0, none⟩), .int .i64 (q : Int)] w' fun e w'' => e = .returned (.int .u8 b) ∧ w'' = w') from fun w' h' => by rw [← hb2]; exact A.out w' h')
      clear HQ hend hb2
      go_wp2_with fail
      refine (A.out _ hC1).mono ?_
      rintro e w2 ⟨rfl, hw⟩
      obtain rfl : w1 = w2 := hw.symm
      have c3 := hP1.c3
      have c4 := hN1.c4
      have c5 := hN1.c5
      have c6 := hN1.c6
      have c7 := hN1.c7
      have f4 := hN1.f4
      have f5 := hN1.f5
      have f6 := hN1.f6
      have f7 := hN1.f7
      have hsub : (c : Int) ≤ (d : Int) := by omega
      have hsub2 : (d : Int) ≤ 4611686018427387904 := by omega
      clear hq hd hb hle hc hp hP hN hC
      go_wp2_with fail
      go_region_held3 (fun w' => w'.cell? ⟨cb, 3, none⟩ = some (.int .i64 (c : Int))) (first | assumption | simp [go_sem, c3])
        (first | (go_at_call 21; refine (A.out _ (by first | exact hC1 | exact hC1.drew)).mono ?_; rintro e w2 ⟨rfl, rfl⟩))
      go_end0
      refine ⟨rfl, ?_⟩
      rw [wrap_sub hsub hsub2]
      have k1 := (((hC1.set 4 (by omega) (.int .i64 (q : Int))).set 5 (by omega) (.int .i64 (d : Int))).set 6 (by omega) (.int .i64 ((d : Int) - (c : Int)))).set 7 (by omega) (.bool (b == 0))
      have k2 := (((hP1.set4 4 (by omega) (.int .i64 (q : Int))).set4 5 (by omega) (.int .i64 (d : Int))).set4 6 (by omega) (.int .i64 ((d : Int) - (c : Int)))).set4 7 (by omega) (.bool (b == 0))
      have k3 := hN1.all (q : Int) (d : Int) ((d : Int) - (c : Int)) (b == 0)
      have k4 := grown_set (grown_set (grown_set (grown_set hg1 4 (.int .i64 (q : Int))) 5 (.int .i64 (d : Int))) 6 (.int .i64 ((d : Int) - (c : Int)))) 7 (.bool (b == 0))
      rw [HB.out]
      exact ⟨k1.drew, k2.drew, k3.drew, grown_drew k4⟩
    · have hqn : q < n := by omega
      have hb2 := scan_bound hnext
      have hn := nxt_gt d (f q)
      have hf := atF_in (f := f) (nb := nb) hqn
      rw [show n - q - 1 = n - (q + 1) by omega] at hnext
      clear HQ
      rcases hby with h32 | h9
      · rw [h32, nxt_other d (by decide)] at hnext
        have HX : Hid (scan f (n - (q + 1)) (q + 1) (d + 1) = (F, C)) := hnext
        have A := (show Hid (∀ w', Core w' cb tb lb a n cp f nb → Calls Try.prog 21 #[.pointer (some ⟨cb, 0, none⟩), .int .i64 (q : Int)] w' fun e w'' => e = .returned (.int .u8 32) ∧ w'' = w') from fun w' h' => by rw [← h32, ← hf]; exact A.out w' h')
        rw [h32, nxt_other d (by decide)] at hb2
        clear hf h32 hnext
        by_cases h3 : d % 4 = 3
        · have e3 : (4 : Int) - ((d % 4 : Nat) : Int) = 1 := by omega
          rw [e3]
          have i1 : (d : Int) ≤ 4611686018427387904 := by omega
          go_wp2_with fail
          refine (A.out _ hC1).mono ?_
          rintro e w2 ⟨rfl, hw⟩
          obtain rfl : w1 = w2 := hw.symm
          go_wp2_with fail
          go_round
          case rel => exact ⟨q + 1, d + 1, by go_num, by go_num, by rw [show (d + 1) % 4 = 0 by omega]; rfl, .inr (by omega), by omega, HX⟩
          case measure => simp [intOf]; omega
        · have e3 : (4 : Int) - ((d % 4 : Nat) : Int) - 1 = (4 : Int) - (((d + 1) % 4 : Nat) : Int) := by omega
          have e4 : ((4 : Int) - ((d % 4 : Nat) : Int) - 1) ≠ 0 := by omega
          have i1 : (d : Int) ≤ 4611686018427387904 := by omega
          obtain ⟨x, hx⟩ : ∃ x, (4 : Int) - ((d % 4 : Nat) : Int) = x := ⟨_, rfl⟩
          rw [hx] at e3 e4 ⊢
          have x1 : 0 ≤ x ∧ x ≤ 4 := by omega
          have E3 : Hid (x - 1 = (4 : Int) - (((d + 1) % 4 : Nat) : Int)) := e3
          clear hx e3
          go_wp2_with fail
          refine (A.out _ hC1).mono ?_
          rintro e w2 ⟨rfl, hw⟩
          obtain rfl : w1 = w2 := hw.symm
          go_wp2_with fail
          go_round
          case rel => exact ⟨q + 1, d + 1, by go_num, by go_num, by rw [E3.out], .inr (by omega), by omega, HX⟩
          case measure => simp [intOf]; omega
      · rw [h9, nxt_tab d] at hnext
        have HX : Hid (scan f (n - (q + 1)) (q + 1) (d + (4 - d % 4)) = (F, C)) := hnext
        have A := (show Hid (∀ w', Core w' cb tb lb a n cp f nb → Calls Try.prog 21 #[.pointer (some ⟨cb, 0, none⟩), .int .i64 (q : Int)] w' fun e w'' => e = .returned (.int .u8 9) ∧ w'' = w') from fun w' h' => by rw [← h9, ← hf]; exact A.out w' h')
        rw [h9, nxt_tab d] at hb2
        clear hf h9 hnext
        have i1 : (d : Int) ≤ 4611686018427387904 := by omega
        obtain ⟨x, hx⟩ : ∃ x, (4 : Int) - ((d % 4 : Nat) : Int) = x := ⟨_, rfl⟩
        have e3 : (d : Int) + x = ((d + (4 - d % 4) : Nat) : Int) := by omega
        rw [hx]
        have x1 : 0 ≤ x ∧ x ≤ 4 := by omega
        have E3 : Hid ((d : Int) + x = ((d + (4 - d % 4) : Nat) : Int)) := e3
        have E4 : Hid (4 = (4 : Int) - (((d + (4 - d % 4)) % 4 : Nat) : Int)) := by
          show (4 : Int) = _
          omega
        clear hx e3
        go_wp2_with fail
        refine (A.out _ hC1).mono ?_
        rintro e w2 ⟨rfl, hw⟩
        obtain rfl : w1 = w2 := hw.symm
        go_wp2_with fail
        go_round
        case rel => exact ⟨q + 1, d + (4 - d % 4), by go_num, by rw [E3.out], by rw [← E4.out], .inr (by omega), by omega, HX⟩
        case measure => simp [intOf]; omega
end Go.Proofs.Qxb6002915a
