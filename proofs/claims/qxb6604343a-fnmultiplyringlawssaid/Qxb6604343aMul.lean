/-
  CONTRACTS of multiply, ZZmultiply, zzRev32B1, zzGFMulB1.
-/
import Derived.Test.Qxb6604343aRows
import Derived.Test.Qxb6604343aPoly
import Derived.WalkKit
import Derived.WalkSpells
import Derived.Outline
import Derived.RowKit3
import Derived.Laws.BitsAllLaws
import Derived.OpenShut
namespace Go.Proofs.Qxb6604343a
open Go.RowKit
open Poly (W V X Xn mulN mul rev revN gf clN redN up e0)

theorem val_int {k : IntKind} {a b : Int} (h : a = b) : Value.int k a = .int k b := by rw [h]
theorem ret_int {k : IntKind} {a b : Int} (h : a = b) : Ending.returned (.int k a) = .returned (.int k b) := by rw [h]

/-! ### the model's bits on words -/
theorem w_xor (x y : W) : bits .xor .u32 (x.toNat : Int) (y.toNat : Int) = ((x ^^^ y).toNat : Int) := by
  rw [u32_xor_nat _ _ x.isLt y.isLt, BitVec.toNat_xor]
theorem w_and (x y : W) : bits .and .u32 (x.toNat : Int) (y.toNat : Int) = ((x &&& y).toNat : Int) := by
  rw [u32_and_nat _ _ x.isLt y.isLt, BitVec.toNat_and]
theorem w_or (x y : W) : bits .or .u32 (x.toNat : Int) (y.toNat : Int) = ((x ||| y).toNat : Int) := by
  rw [u32_or_nat _ _ x.isLt y.isLt, BitVec.toNat_or]
theorem v_xor (x y : V) : bits .xor .u64 (x.toNat : Int) (y.toNat : Int) = ((x ^^^ y).toNat : Int) := by
  rw [u64_xor_nat _ _ x.isLt y.isLt, BitVec.toNat_xor]
theorem bit_and1 (n : Nat) (h : n < 4294967296) : bits .and .u32 (n : Int) 1 = ((n % 2 : Nat) : Int) := by
  have := u32_and_nat n 1 h (by decide)
  rw [nat_mask1] at this
  exact this
theorem bit_and1_64 (n : Nat) (h : n < 18446744073709551616) : bits .and .u64 (n : Int) 1 = ((n % 2 : Nat) : Int) := by
  have := u64_and_nat n 1 h (by decide)
  rw [nat_mask1] at this
  exact this
theorem div_pow_lt (n i m : Nat) (h : n < m) : n / 2 ^ i < m := Nat.lt_of_le_of_lt (Nat.div_le_self _ _) h
theorem w_bit (x : W) (i : Nat) : bits .and .u32 ((x.toNat : Int) / 2 ^ i) 1 = if x.getLsbD i then 1 else 0 := by
  have e : (x.toNat : Int) / 2 ^ i = ((x.toNat / 2 ^ i : Nat) : Int) := by norm_cast
  rw [e, bit_and1 _ (div_pow_lt _ _ _ x.isLt)]
  have t : x.getLsbD i = decide (x.toNat / 2 ^ i % 2 = 1) := by
    show x.toNat.testBit i = _
    rw [Nat.testBit_eq_decide_div_mod_eq]
  rw [t]
  by_cases h : x.toNat / 2 ^ i % 2 = 1
  · simp [h]
  · have : x.toNat / 2 ^ i % 2 = 0 := by omega
    simp [this]
theorem v_bit (x : V) (i : Nat) : bits .and .u64 ((x.toNat : Int) / 2 ^ i) 1 = if x.getLsbD i then 1 else 0 := by
  have e : (x.toNat : Int) / 2 ^ i = ((x.toNat / 2 ^ i : Nat) : Int) := by norm_cast
  rw [e, bit_and1_64 _ (div_pow_lt _ _ _ x.isLt)]
  have t : x.getLsbD i = decide (x.toNat / 2 ^ i % 2 = 1) := by
    show x.toNat.testBit i = _
    rw [Nat.testBit_eq_decide_div_mod_eq]
  rw [t]
  by_cases h : x.toNat / 2 ^ i % 2 = 1
  · simp [h]
  · have : x.toNat / 2 ^ i % 2 = 0 := by omega
    simp [this]
theorem w_bit0 (x : W) : bits .and .u32 (x.toNat : Int) 1 = if x.getLsbD 0 then 1 else 0 := by
  have := w_bit x 0
  rwa [Int.pow_zero, Int.ediv_one] at this
theorem mask (c : Bool) : (-(if c = true then 1 else 0 : Int)) % 4294967296 = (((if c then BitVec.allOnes 32 else 0#32 : W)).toNat : Int) := by
  cases c <;> decide
theorem and_mask (c : Bool) (b : W) : b &&& (if c then BitVec.allOnes 32 else 0#32) = if c then b else 0#32 := by
  cases c
  · exact BitVec.and_zero
  · exact BitVec.and_allOnes
theorem w_half (x : W) : (x.toNat : Int) / (2 : Int) = ((x >>> 1).toNat : Int) := by
  rw [BitVec.toNat_ushiftRight, Nat.shiftRight_eq_div_pow]; norm_cast

/-- the round of multiply, the product -/
theorem round_p (P B a : W) (i : Nat) :
    bits .xor .u32 (P.toNat : Int) (bits .and .u32 (B.toNat : Int) (-bits .and .u32 ((a.toNat : Int) / 2 ^ i) 1 % 4294967296)) = ((P ^^^ (if a.getLsbD i then B else 0#32)).toNat : Int) := by
  rw [w_bit, mask, w_and, and_mask, w_xor]
/-- the round of multiply, b -/
theorem round_b (B : W) :
    bits .xor .u32 ((B.toNat : Int) / 2) (bits .and .u32 2197175160 (-bits .and .u32 (B.toNat : Int) 1 % 4294967296)) = ((X B).toNat : Int) := by
  rw [w_bit0, mask, w_half]
  have := w_and 0x82F63B78#32 (if B.getLsbD 0 then BitVec.allOnes 32 else 0#32)
  rw [show ((0x82F63B78#32 : W).toNat : Int) = 2197175160 from rfl] at this
  rw [this, and_mask, w_xor]
  rfl

theorem multiply_any (a b : W) (w : World) : Calls Try.prog 21 #[.int .u32 (a.toNat : Int), .int .u32 (b.toNat : Int)] w fun e w' => e = .returned (.int .u32 ((mul a b).toNat : Int)) ∧ w' = w := by
  go_enter Try.func21, Try.ntmps21
  go_wp2
  go_loop [1, 5, 6] (fun bb p i => ∃ k : Nat, k ≤ 32 ∧ i = .int .i64 (31 - (k : Int)) ∧ p = .int .u32 ((mulN a k b).toNat : Int) ∧ bb = .int .u32 ((Xn k b).toNat : Int)) (fun _ _ i => (intOf i + 1).toNat)
  case atStart => exact ⟨0, by omega, rfl, rfl, rfl⟩
  case round =>
    obtain ⟨k, hk, rfl, rfl, rfl⟩ := hrel
    obtain ⟨P, hP⟩ : ∃ P, mulN a k b = P := ⟨_, rfl⟩
    obtain ⟨B, hB⟩ : ∃ B, Xn k b = B := ⟨_, rfl⟩
    rw [hP, hB]
    have HP : Hid (mulN a k b = P) := hP
    have HB : Hid (Xn k b = B) := hB
    clear hP hB
    by_cases hlt : k < 32
    · go_wp2
      go_round
      case rel =>
        refine ⟨k + 1, by omega, val_int (by omega), val_int ?_, val_int ?_⟩
        · rw [round_p]; show _ = (((mulN a k b) ^^^ (if a.getLsbD (31 - k) then Xn k b else 0#32)).toNat : Int); rw [HP.out, HB.out]
        · rw [round_b]; show _ = ((X (Xn k b)).toNat : Int); rw [HB.out]
      case measure => simp [intOf]; omega
    · obtain rfl : k = 32 := by omega
      go_wp2
      go_ret
      exact ⟨ret_int (by rw [← HP.out]; rfl), rfl⟩

theorem zzmultiply_any (a b : W) (w : World) : Calls Try.prog 9 #[.int .u32 (a.toNat : Int), .int .u32 (b.toNat : Int)] w fun e w' => e = .returned (.int .u32 ((mul a b).toNat : Int)) ∧ w' = w := by
  go_enter Try.func9, Try.ntmps9
  go_wp2_with (go_at_call 21; refine (multiply_any a b _).mono ?_; rintro e w' ⟨rfl, rfl⟩)
  go_ret
  exact ⟨rfl, rfl⟩

/-- an argument of type uint32 is a word -/
theorem word_of {a : Int} (h : (Lit.int .u32 a).wf = true) : ∃ x : W, a = (x.toNat : Int) := by
  have hb := bounds_u32 h
  refine ⟨BitVec.ofNat 32 a.toNat, ?_⟩
  rw [BitVec.toNat_ofNat]
  omega

/-! ### zzRev32B1 -/
theorem w_dbl (x : W) : (x.toNat : Int) * (2 : Int) % (4294967296 : Int) = ((x <<< 1).toNat : Int) := by
  rw [BitVec.toNat_shiftLeft, Nat.shiftLeft_eq, Int.natCast_emod, Int.natCast_mul]; rfl
theorem w_and1 (x : W) : bits .and .u32 (x.toNat : Int) 1 = ((x &&& 1#32).toNat : Int) := by
  have := w_and x 1#32
  exact this
theorem rev_any (x : W) (w : World) : Calls Try.prog 7 #[.int .u32 (x.toNat : Int)] w fun e w' => e = .returned (.int .u32 ((rev x).toNat : Int)) ∧ w' = w := by
  go_enter Try.func7, Try.ntmps7
  go_wp2
  go_loop [0, 3, 4] (fun xx r i => ∃ k : Nat, k ≤ 32 ∧ i = .int .i64 (k : Int) ∧ r = .int .u32 ((revN k x).1.toNat : Int) ∧ xx = .int .u32 ((revN k x).2.toNat : Int)) (fun _ _ i => 32 - (intOf i).toNat)
  case atStart => exact ⟨0, by omega, rfl, rfl, rfl⟩
  case round =>
    obtain ⟨k, hk, rfl, rfl, rfl⟩ := hrel
    obtain ⟨P, hP⟩ : ∃ P, (revN k x).1 = P := ⟨_, rfl⟩
    obtain ⟨B, hB⟩ : ∃ B, (revN k x).2 = B := ⟨_, rfl⟩
    rw [hP, hB]
    have HP : Hid ((revN k x).1 = P) := hP
    have HB : Hid ((revN k x).2 = B) := hB
    clear hP hB
    by_cases hlt : k < 32
    · go_wp2
      go_round
      case rel =>
        refine ⟨k + 1, by omega, by go_num, val_int ?_, val_int ?_⟩
        · show _ = ((((revN k x).1 <<< 1) ||| ((revN k x).2 &&& 1#32)).toNat : Int)
          rw [HP.out, HB.out, ← w_or, ← w_and1, ← w_dbl]
        · show _ = (((revN k x).2 >>> 1).toNat : Int)
          rw [HB.out, ← w_half]
      case measure => simp [intOf]; omega
    · obtain rfl : k = 32 := by omega
      go_wp2
      go_ret
      exact ⟨ret_int (by rw [← HP.out]; rfl), rfl⟩

/-! ### zzGFMulB1 -/
theorem v_shl (x : V) (i : Nat) : (x.toNat : Int) * (2 : Int) ^ i % (18446744073709551616 : Int) = ((x <<< i).toNat : Int) := by
  rw [BitVec.toNat_shiftLeft, Nat.shiftLeft_eq, Int.natCast_emod, Int.natCast_mul, Int.natCast_pow]; rfl
theorem up_toNat (a : W) : (up a).toNat = a.toNat := by
  unfold up; rw [BitVec.toNat_setWidth]; have := a.isLt; omega
theorem low_toNat (p : V) : (p.toNat : Int) % (4294967296 : Int) = ((p.setWidth 32).toNat : Int) := by
  rw [BitVec.toNat_setWidth, Int.natCast_emod]; rfl
set_option maxHeartbeats 400000 in
theorem gf_any (a b : W) (w : World) : Calls Try.prog 8 #[.int .u32 (a.toNat : Int), .int .u32 (b.toNat : Int)] w fun e w' => e = .returned (.int .u32 ((gf a b).toNat : Int)) ∧ w' = w := by
  go_enter Try.func8, Try.ntmps8
  go_wp2
  go_loop [5, 6] (fun p i => ∃ k : Nat, k ≤ 32 ∧ i = .int .i64 (k : Int) ∧ p = .int .u64 ((clN a b k).toNat : Int)) (fun _ i => 32 - (intOf i).toNat)
  case atStart => exact ⟨0, by omega, rfl, rfl⟩
  case round =>
    obtain ⟨k, hk, rfl, rfl⟩ := hrel
    obtain ⟨P, hP⟩ : ∃ P, clN a b k = P := ⟨_, rfl⟩
    rw [hP]
    have HP : Hid (clN a b k = P) := hP
    clear hP
    by_cases hlt : k < 32
    · have hbit := w_bit b k
      cases hb : b.getLsbD k
      · rw [hb] at hbit
        go_wp2
        go_round
        case rel => exact ⟨k + 1, by omega, by go_num, val_int (by show _ = ((if b.getLsbD k then clN a b k ^^^ (up a <<< k) else clN a b k).toNat : Int); rw [hb, ← HP.out]; rfl)⟩
        case measure => simp [intOf]; omega
      · rw [hb] at hbit
        go_wp2
        go_round
        case rel => exact ⟨k + 1, by omega, by go_num, val_int (by show _ = ((if b.getLsbD k then clN a b k ^^^ (up a <<< k) else clN a b k).toNat : Int); rw [hb, IntKind.wrap_u64, ← up_toNat a, v_shl, v_xor, ← HP.out]; rfl)⟩
        case measure => simp [intOf]; omega
    · obtain rfl : k = 32 := by omega
      go_wp2
      go_loop [5, 7] (fun p i => ∃ k : Nat, k ≤ 31 ∧ i = .int .i64 (62 - (k : Int)) ∧ p = .int .u64 ((redN P k).toNat : Int)) (fun _ i => (intOf i).toNat)
      case atStart => exact ⟨0, by omega, rfl, rfl⟩
      case round =>
        obtain ⟨k, hk, rfl, rfl⟩ := hrel
        obtain ⟨R, hR⟩ : ∃ R, redN P k = R := ⟨_, rfl⟩
        rw [hR]
        have HR : Hid (redN P k = R) := hR
        clear hR
        by_cases hlt : k < 31
        · have hbit := v_bit R (62 - k)
          cases hb : R.getLsbD (62 - k)
          · rw [hb] at hbit
            go_wp2
            go_round
            case rel => exact ⟨k + 1, by omega, val_int (by omega), val_int (by show _ = ((if (redN P k).getLsbD (62 - k) then redN P k ^^^ (0x11EDC6F41#64 <<< (30 - k)) else redN P k).toNat : Int); rw [HR.out, hb]; rfl)⟩
            case measure => simp [intOf]; omega
          · rw [hb] at hbit
            go_wp2
            go_round
            case rel =>
              refine ⟨k + 1, by omega, val_int (by omega), val_int ?_⟩
              show _ = ((if (redN P k).getLsbD (62 - k) then redN P k ^^^ (0x11EDC6F41#64 <<< (30 - k)) else redN P k).toNat : Int)
              have e1 := v_shl 0x11EDC6F41#64 (30 - k)
              have e2 : (((0x11EDC6F41#64 : V).toNat : Nat) : Int) = 4812730177 := rfl
              rw [e2] at e1
              rw [HR.out, hb, IntKind.wrap_u64, show 62 - k - 32 = 30 - k by omega, e1, v_xor]
              rfl
            case measure => simp [intOf]; omega
        · obtain rfl : k = 31 := by omega
          go_wp2
          go_ret
          exact ⟨ret_int (by rw [low_toNat, ← HR.out, ← HP.out]; rfl), rfl⟩
end Go.Proofs.Qxb6604343a
