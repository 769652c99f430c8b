/-
  THE CONTRACT of zgModel.
-/
import Derived.Test.Qxb6002915aShim
namespace Go.Proofs.Qxb6002915a
open Go.RowKit
set_option linter.unusedVariables false

set_option maxRecDepth 100000 in
set_option maxHeartbeats 8000000 in
theorem model_any (lb : Nat) (a : Option Addr) (n cp : Nat) (f : Nat → Int) (nb : Bool) (p c F C : Nat) (kind width : Int) (empty : Bool) (html : Int) (w : World) (hl : Line w lb a n f) (le : n ≤ 1048576) (hs : scan f (n - p) p c = (F, C)) (hc : c ≤ 1073741824) (hp : p ≤ 9223372036854775807) :
    Calls Try.prog 9 #[.slice a n cp, .bool nb, .int .i64 (p : Int), .int .i64 (c : Int), .int .u8 kind, .int .i64 width, .bool empty, .int .i64 html] w fun e w' => e = .returned (ansV (goes f n nb p c F C kind width empty html) F C c (atF f n nb F == 0)) ∧ w' = w := by
  have hb := scan_bound hs
  have HS : Hid (scan f (n - p) p c = (F, C)) := hs
  have A := (show Hid (∀ (i : Nat), Calls Try.prog 15 #[.slice a n cp, .bool nb, .int .i64 (i : Int)] w fun e w'' => e = .returned (.int .u8 (atF f n nb i)) ∧ w'' = w) from fun i => zgAt_any lb a n cp f nb i w hl le)
  have K := (show Hid (∀ (p c : Nat) (k : Int), c ≤ 4294967296 → k ≤ 4294967296 → Calls Try.prog 17 #[.slice a n cp, .int .i64 (p : Int), .int .i64 (c : Int), .int .i64 k] w fun e w' => e = .returned (.tuple #[.int .i64 ((colsK f n p c k).1 : Int), .int .i64 ((colsK f n p c k).2 : Int)]) ∧ w' = w) from fun p c k h1 h2 => zgColumns_any lb a n cp p c f k w hl le h1 h2)
  obtain ⟨g, hg⟩ : ∃ g, goes f n nb p c F C kind width empty html = g := ⟨_, rfl⟩
  rw [hg]
  have HG : Hid (goes f n nb p c F C kind width empty html = g) := hg
  clear hs hl hg
  go_enter Try.func9, Try.ntmps9
  go_wp2_with fail
  go_loop [23, 24, 25] (fun qv dv _ => ∃ (q d : Nat), qv = .int .i64 (q : Int) ∧ dv = .int .i64 (d : Int) ∧ (q = p ∨ q ≤ n) ∧ d ≤ C ∧ Hid (scan f (n - q) q d = (F, C))) (fun qv _ _ => n - (intOf qv).toNat)
  case atStart => exact ⟨p, c, rfl, rfl, .inl rfl, by omega, HS⟩
  case round =>
    obtain ⟨q, d, rfl, rfl, hq, hd, HQ⟩ := hrel
    clear HS
    rcases scan_step HQ.out with ⟨rfl, rfl, hend⟩ | ⟨hk, hlt, hby, hnext⟩
    · have h32 : atF f n nb q ≠ 32 := by unfold atF; split; (rcases hend with h | h; (omega); (exact h.1)); (split <;> decide)
      have h9 : atF f n nb q ≠ 9 := by unfold atF; split; (rcases hend with h | h; (omega); (exact h.2)); (split <;> decide)
      clear HQ hend
      obtain ⟨b, hb2⟩ : ∃ b, atF f n nb q = b := ⟨_, rfl⟩
      rw [hb2] at h32 h9
      have A1 := (show Hid (Calls Try.prog 15 #[.slice a n cp, .bool nb, .int .i64 (q : Int)] w fun e w'' => e = .returned (.int .u8 b) ∧ w'' = w) from by have := A.out q; rw [hb2] at this; exact this)
      have HB : Hid (atF f n nb q = b) := hb2
      clear hb2
      have i32 : (b != 32) = true := by simp [h32]
      have i9 : (b != 9) = true := by simp [h9]
      have j0 : (0 : Int) ≤ (d : Int) - (c : Int) := by omega
      have j1 : (d : Int) - (c : Int) ≤ 4294967296 := by omega
      go_wp2_with fail
      refine A1.out.mono ?_
      rintro e w2 ⟨rfl, hw⟩
      obtain rfl : w = w2 := hw.symm
      go_wp2_with fail
      refine A1.out.mono ?_
      rintro e w2 ⟨rfl, hw⟩
      obtain rfl : w = w2 := hw.symm
      have e := HG.out
      unfold goes at e
      rw [HB.out] at e
      clear HG
      by_cases k1 : kind = 1
      · subst k1
        rw [if_pos rfl] at e
        by_cases h3 : (3 : Int) < (d : Int) - (c : Int)
        · rw [if_pos (.inl h3)] at e
          obtain rfl : g = (false, p, c) := e.symm
          clear e
          go_wp2_with fail
          refine bodyPost_ret (v := ansV (false, p, c) q d c (atF f n nb q == 0)) (by rw [HB.out]; simp [results, Try.results9, go_sem, ansV]) rfl ⟨rfl, rfl⟩
        · by_cases h62 : b = 62
          · rw [if_neg (fun h => by rcases h with h | h; exact h3 h; exact h h62)] at e
            have hqn : q < n := by
              by_cases h : q < n
              · exact h
              · exfalso
                have hx := HB.out
                rw [h62] at hx
                unfold atF at hx
                rw [if_neg h] at hx
                split at hx <;> cases hx
            subst h62
            obtain ⟨x, hx⟩ : ∃ x, atF f n nb (q + 1) = x := ⟨_, rfl⟩
            rw [hx] at e
            have e1 : ((q + 1 : Nat) : Int) = (q : Int) + 1 := by omega
            have e2 : ((d + 1 : Nat) : Int) = (d : Int) + 1 := by omega
            have A2 := (show Hid (Calls Try.prog 15 #[.slice a n cp, .bool nb, .int .i64 ((q : Int) + 1)] w fun e w'' => e = .returned (.int .u8 x) ∧ w'' = w) from by have := A.out (q + 1); rw [hx, e1] at this; exact this)
            have K2 := (show Hid (Calls Try.prog 17 #[.slice a n cp, .int .i64 ((q : Int) + 1), .int .i64 ((d : Int) + 1), .int .i64 1] w fun e w' => e = .returned (.tuple #[.int .i64 ((colsK f n (q + 1) (d + 1) 1).1 : Int), .int .i64 ((colsK f n (q + 1) (d + 1) 1).2 : Int)]) ∧ w' = w) from by have := K.out (q + 1) (d + 1) 1 (by omega) (by omega); rw [e1, e2] at this; exact this)
            have HE := (show Hid _ from e)
            clear e hx e1 e2
            go_wp2_with fail
            refine A1.out.mono ?_
            rintro e w2 ⟨rfl, hw⟩
            obtain rfl : w = w2 := hw.symm
            go_wp2_with fail
            refine A2.out.mono ?_
            rintro e w2 ⟨rfl, hw⟩
            obtain rfl : w = w2 := hw.symm
            by_cases hs : x = 32 ∨ x = 9
            · have e := HE.out
              rw [if_pos hs] at e
              obtain rfl : g = (true, colsK f n (q + 1) (d + 1) 1) := e.symm
              clear e HE
              rcases hs with rfl | rfl
              · go_wp2_with fail
                refine K2.out.mono ?_
                rintro e w2 ⟨rfl, hw⟩
                obtain rfl : w = w2 := hw.symm
                go_wp2_with fail
                refine bodyPost_ret (v := ansV (true, colsK f n (q + 1) (d + 1) 1) q d c (atF f n nb q == 0)) (by rw [HB.out]; simp [results, Try.results9, go_sem, ansV]) rfl ⟨rfl, rfl⟩
              · go_wp2_with fail
                refine K2.out.mono ?_
                rintro e w2 ⟨rfl, hw⟩
                obtain rfl : w = w2 := hw.symm
                go_wp2_with fail
                refine bodyPost_ret (v := ansV (true, colsK f n (q + 1) (d + 1) 1) q d c (atF f n nb q == 0)) (by rw [HB.out]; simp [results, Try.results9, go_sem, ansV]) rfl ⟨rfl, rfl⟩
            · have e := HE.out
              rw [if_neg hs] at e
              obtain rfl : g = (true, q + 1, d + 1) := e.symm
              clear e HE
              have s32 : (x == 32) = false := by simp; exact fun h => hs (.inl h)
              have s9 : (x == 9) = false := by simp; exact fun h => hs (.inr h)
              go_wp2_with fail
              refine bodyPost_ret (v := ansV (true, q + 1, d + 1) q d c (atF f n nb q == 0)) (by rw [HB.out]; simp [results, Try.results9, go_sem, ansV]) rfl ⟨rfl, rfl⟩
          · rw [if_pos (.inr h62)] at e
            obtain rfl : g = (false, p, c) := e.symm
            clear e
            have hb62 : (b != 62) = true := by simp [h62]
            go_wp2_with fail
            refine A1.out.mono ?_
            rintro e w2 ⟨rfl, hw⟩
            obtain rfl : w = w2 := hw.symm
            go_wp2_with fail
            refine bodyPost_ret (v := ansV (false, p, c) q d c (atF f n nb q == 0)) (by rw [HB.out]; simp [results, Try.results9, go_sem, ansV]) rfl ⟨rfl, rfl⟩
      · rw [if_neg k1] at e
        by_cases k2 : kind = 2
        · subst k2
          rw [if_pos rfl] at e
          by_cases hw : width ≤ (d : Int) - (c : Int)
          · rw [if_pos hw] at e
            obtain rfl : g = (true, colsK f n p c width) := e.symm
            clear e
            go_wp2_with fail
            refine (K.out p c width (by omega) (by omega)).mono ?_
            rintro e w2 ⟨rfl, hw⟩
            obtain rfl : w = w2 := hw.symm
            go_wp2_with fail
            refine bodyPost_ret (v := ansV (true, colsK f n p c width) q d c (atF f n nb q == 0)) (by rw [HB.out]; simp [results, Try.results9, go_sem, ansV]) rfl ⟨rfl, rfl⟩
          · rw [if_neg hw] at e
            by_cases h2 : b = 0 ∧ empty = false
            · rw [if_pos h2] at e
              obtain rfl : g = (true, q, d) := e.symm
              clear e
              obtain ⟨rfl, rfl⟩ := h2
              go_wp2_with fail
              refine bodyPost_ret (v := ansV (true, q, d) q d c (atF f n nb q == 0)) (by rw [HB.out]; simp [results, Try.results9, go_sem, ansV]) rfl ⟨rfl, rfl⟩
            · rw [if_neg h2] at e
              obtain rfl : g = (false, p, c) := e.symm
              clear e
              by_cases h0 : b = 0
              · subst h0
                obtain rfl : empty = true := by
                  cases empty
                  · exact absurd ⟨rfl, rfl⟩ h2
                  · rfl
                go_wp2_with fail
                refine bodyPost_ret (v := ansV (false, p, c) q d c (atF f n nb q == 0)) (by rw [HB.out]; simp [results, Try.results9, go_sem, ansV]) rfl ⟨rfl, rfl⟩
              · have hb0 : (b == 0) = false := by simp [h0]
                go_wp2_with fail
                refine bodyPost_ret (v := ansV (false, p, c) q d c (atF f n nb q == 0)) (by rw [HB.out]; simp [results, Try.results9, go_sem, ansV, h0]) rfl ⟨rfl, rfl⟩
        · rw [if_neg k2] at e
          by_cases k5 : kind = 5
          · subst k5
            rw [if_pos rfl] at e
            by_cases hw : (4 : Int) ≤ (d : Int) - (c : Int)
            · rw [if_pos hw] at e
              obtain rfl : g = (true, colsK f n p c 4) := e.symm
              clear e
              go_wp2_with fail
              refine (K.out p c 4 (by omega) (by omega)).mono ?_
              rintro e w2 ⟨rfl, hw⟩
              obtain rfl : w = w2 := hw.symm
              go_wp2_with fail
              refine bodyPost_ret (v := ansV (true, colsK f n p c 4) q d c (atF f n nb q == 0)) (by rw [HB.out]; simp [results, Try.results9, go_sem, ansV]) rfl ⟨rfl, rfl⟩
            · rw [if_neg hw] at e
              by_cases h0 : b = 0
              · rw [if_pos h0] at e
                obtain rfl : g = (true, q, d) := e.symm
                clear e
                subst h0
                go_wp2_with fail
                refine bodyPost_ret (v := ansV (true, q, d) q d c (atF f n nb q == 0)) (by rw [HB.out]; simp [results, Try.results9, go_sem, ansV]) rfl ⟨rfl, rfl⟩
              · rw [if_neg h0] at e
                obtain rfl : g = (false, p, c) := e.symm
                clear e
                have hb0 : (b == 0) = false := by simp [h0]
                go_wp2_with fail
                refine bodyPost_ret (v := ansV (false, p, c) q d c (atF f n nb q == 0)) (by rw [HB.out]; simp [results, Try.results9, go_sem, ansV, h0]) rfl ⟨rfl, rfl⟩
          · rw [if_neg k5] at e
            have hdb : decide (b = 0) = (b == 0) := rfl
            by_cases k6 : kind = 6
            · subst k6
              rw [if_pos rfl, hdb] at e
              obtain rfl : g = (decide (html ≤ 5) || !(b == 0), p, c) := e.symm
              clear e hdb
              by_cases h5 : html ≤ 5
              · have e5 : decide (html ≤ 5) = true := by simp [h5]
                have e6 : (decide (html ≤ 5) || !(b == 0)) = true := by rw [e5]; rfl
                go_wp2_with fail
                refine bodyPost_ret (v := ansV (decide (html ≤ 5) || !(b == 0), p, c) q d c (atF f n nb q == 0)) (by rw [HB.out, e6]; simp [results, Try.results9, go_sem, ansV]) rfl ⟨rfl, rfl⟩
              · have e5 : decide (html ≤ 5) = false := by simp; omega
                have e6 : (decide (html ≤ 5) || !(b == 0)) = !(b == 0) := by rw [e5]; rfl
                go_wp2_with fail
                refine bodyPost_ret (v := ansV (decide (html ≤ 5) || !(b == 0), p, c) q d c (atF f n nb q == 0)) (by rw [HB.out, e6]; simp [results, Try.results9, go_sem, ansV]) rfl ⟨rfl, rfl⟩
            · rw [if_neg k6] at e
              by_cases k3 : kind = 3
              · subst k3
                rw [if_pos rfl, hdb] at e
                obtain rfl : g = (!(b == 0), p, c) := e.symm
                clear e hdb
                go_wp2_with fail
                refine bodyPost_ret (v := ansV (!(b == 0), p, c) q d c (atF f n nb q == 0)) (by rw [HB.out]; simp [results, Try.results9, go_sem, ansV]) rfl ⟨rfl, rfl⟩
              · rw [if_neg k3] at e
                obtain rfl : g = (true, p, c) := e.symm
                clear e hdb
                go_wp2_with fail
                refine bodyPost_ret (v := ansV (true, p, c) q d c (atF f n nb q == 0)) (by rw [HB.out]; simp [results, Try.results9, go_sem, ansV]) rfl ⟨rfl, rfl⟩
    · have hqn : q < n := by omega
      have hb2 := scan_bound hnext
      have hn := nxt_gt d (f q)
      have hf := atF_in (f := f) (nb := nb) hqn
      rw [show n - q - 1 = n - (q + 1) by omega] at hnext
      have A1 := (show Hid (Calls Try.prog 15 #[.slice a n cp, .bool nb, .int .i64 (q : Int)] w fun e w'' => e = .returned (.int .u8 (f q)) ∧ w'' = w) from by have := A.out q; rw [hf] at this; exact this)
      have X := (show Hid (Calls Try.prog 16 #[.int .i64 (d : Int), .int .u8 (f q)] w fun e w' => e = .returned (.int .i64 (nxt d (f q) : Int)) ∧ w' = w) from zgNext_any d (f q) w (by omega))
      have HX : Hid (scan f (n - (q + 1)) (q + 1) (nxt d (f q)) = (F, C)) := hnext
      clear hf hnext HQ
      generalize nxt d (f q) = e9 at X HX hn hb2
      have hbit : (f q != 32 && f q != 9) = false := by rcases hby with h | h <;> simp [h]
      go_wp2_with fail
      refine A1.out.mono ?_
      rintro e w2 ⟨rfl, hw⟩
      obtain rfl : w = w2 := hw.symm
      rcases hby with h | h
      · rw [h] at X ⊢
        go_wp2_with fail
        refine X.out.mono ?_
        rintro e w2 ⟨rfl, hw⟩
        obtain rfl : w = w2 := hw.symm
        go_wp2_with fail
        go_round
        case rel => exact ⟨q + 1, e9, by go_num, rfl, .inr (by omega), by omega, HX⟩
        case measure => simp [intOf]; omega
      · rw [h] at X ⊢
        go_wp2_with fail
        refine X.out.mono ?_
        rintro e w2 ⟨rfl, hw⟩
        obtain rfl : w = w2 := hw.symm
        go_wp2_with fail
        go_round
        case rel => exact ⟨q + 1, e9, by go_num, rfl, .inr (by omega), by omega, HX⟩
        case measure => simp [intOf]; omega
end Go.Proofs.Qxb6002915a
