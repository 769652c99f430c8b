/-
  CONTRACTS of zzAppendUvarB1, zzAppendStrB1: the record format, written.
-/
import Derived.Test.Qxb6604343aRows
import Derived.Test.Qxb6604343aWire
import Derived.WalkKit
import Derived.WalkSpells
import Derived.WalkLawsBesides
import Derived.Outline
import Derived.OwnWalk
import Derived.Deep.DeepMust
import Derived.Maps.AppendAt
import Derived.Laws.BitsAllLaws
namespace Go.Proofs.Qxb6604343a
open Go.RowKit
open Wire
set_option linter.unusedVariables false

def B8 (n : Nat) : Value := .int .u8 (n : Int)
theorem Try.info5 : (Try.prog.info? 5).map (fun i => (i.zero, i.size, i.bytes)) = some (some (.int .u8 0), 1, 1) := by kernel_rfl
/-- a slice of bytes of our own, from block base on -/
def Own (base : Nat) (w : World) (d : Value) (xs : List Nat) : Prop := w.ownsRow base 5 1 d xs.length (xs.map B8)

theorem or128 : ∀ x : Fin 256, x.1 ||| 128 = x.1 % 128 + 128 := by decide +kernel
theorem byteOr (v : Nat) : bits .or .u8 ((v : Int) % 256) 128 = ((v % 128 + 128 : Nat) : Int) := by
  have e : (v : Int) % 256 = ((v % 256 : Nat) : Int) := by omega
  rw [e]
  have h := u8_or_nat (v % 256) 128 (by omega) (by omega)
  have h2 := or128 ⟨v % 256, by omega⟩
  simp only at h2
  rw [h2] at h
  rw [show v % 256 % 128 = v % 128 by omega] at h
  exact h

theorem val_int {k : IntKind} {a b : Int} (h : a = b) : Value.int k a = .int k b := by rw [h]
theorem own_step {base : Nat} {w wr w1 : World} {v v' : Value} {cur : List Nat} {b : Nat} {o : Obj} (ho : wr.ownsRow base 5 1 v cur.length (cur.map B8)) (hbr : Below base w wr) (hb : base ≤ w.heap.size)
    (hown : w1.ownsRow base 5 1 v' (cur.length + 1) (cur.map B8 ++ [.int .u8 (b : Int)])) (hg : (wr.alloc o).grownBy w1 v.ownBlock) : Own base w1 v' (cur ++ [b]) ∧ Below base w w1 := by
  have hsz := hbr.size
  refine ⟨?_, (hbr.alloc (by omega) o).grown hg (by simp; omega) (fun j hj => (ho.lt j hj).1)⟩
  unfold Own
  rw [List.length_append, List.map_append]
  exact hown

set_option maxRecDepth 100000 in
set_option maxHeartbeats 1000000 in
theorem appendUvar_any (base v0 : Nat) (d0 : Value) (xs : List Nat) (w : World) (hv0 : v0 < 18446744073709551616) (hown : Own base w d0 xs) (hb : base ≤ w.heap.size) (hlen : xs.length ≤ 1000000000) :
    Calls Try.prog 14 #[d0, .int .u64 v0] w fun e w' => ∃ d', e = .returned d' ∧ Own base w' d' (xs ++ uv v0) ∧ Below base w w' := by
  obtain ⟨i0, hi, hz0, hz1, hz2⟩ := info_parts Try.info5
  go_enter Try.func14, Try.ntmps14
  go_wp2
  go_loopw [0, 1] (fun dv vv wr => ∃ (f v : Nat) (cur : List Nat), vv = .int .u64 (v : Int) ∧ v < pw (f + 1) ∧ v < 18446744073709551616 ∧ cur ++ uvF f v = xs ++ uv v0 ∧ cur.length + f ≤ xs.length + 9 ∧ Own base wr dv cur ∧ Below base w wr) (fun _ vv _ => (intOf vv).toNat)
  case atStart => exact ⟨9, v0, xs, rfl, u64_pw hv0, hv0, rfl, Nat.le_refl _, hown, Below.refl _ _⟩
  case round =>
    rename_i dv vv
    obtain ⟨f, v, cur, rfl, hv, hv6, he, hc, ho, hbr⟩ := hrel
    have HE : Hid (cur ++ uvF f v = xs ++ uv v0) := he
    clear he
    have hsz := hbr.size
    by_cases h128 : v < 128
    · unfold Own at ho
      go_wp2_with (first
        | (at_builtin; refine wpList_append_own _ rfl _ _ 32 rfl base 5 i0 (.int .u8 0) 1 1 Try.underlying32 hi hz0 hz1 hz2 rfl (by decide) _ _ _ rfl (ho.alloc _) ⟨wr.heap.size, 0, none⟩ 1 1 [.int .u8 (v : Int)] rfl rfl (cell_one_new _ _ _) (ints_oneCell .u8 [(v : Int)]) (by unfold maxLen; omega) (by omega) (by simp; omega) ?_; intro v' w1 hown' hgrow hnil)
        | go_in)
      obtain ⟨o1, o2⟩ := own_step ho hbr hb hown' hgrow
      go_ret
      refine ⟨_, rfl, ?_, o2⟩
      rw [← HE.out, uvF_small f v h128]
      exact o1
    · unfold Own at ho
      go_wp2_with (first
        | (at_builtin; refine wpList_append_own _ rfl _ _ 32 rfl base 5 i0 (.int .u8 0) 1 1 Try.underlying32 hi hz0 hz1 hz2 rfl (by decide) _ _ _ rfl (ho.alloc _) ⟨wr.heap.size, 0, none⟩ 1 1 [.int .u8 (bits .or .u8 ((v : Int) % 256) 128)] rfl rfl (cell_one_new _ _ _) (ints_oneCell .u8 [(bits .or .u8 ((v : Int) % 256) 128)]) (by unfold maxLen; omega) (by omega) (by simp; omega) ?_; intro v' w1 hown' hgrow hnil)
        | go_in)
      rw [byteOr] at hown'
      obtain ⟨o1, o2⟩ := own_step ho hbr hb hown' hgrow
      obtain ⟨f', rfl⟩ : ∃ f', f = f' + 1 := ⟨f - 1, by cases f with | zero => simp [pw] at hv; omega | succ f => rfl⟩
      go_roundw
      case rel =>
        refine ⟨f', v / 128, cur ++ [v % 128 + 128], val_int (by omega), div_pw hv, by omega, ?_, by simp; omega, o1, o2⟩
        rw [← HE.out, uvF_big f' v h128, List.append_assoc]; rfl
      case measure => simp [intOf]; omega

/-- the bytes of a string -/
def bs (s : ByteArray) : List Nat := s.data.toList.map UInt8.toNat
theorem bs_len (s : ByteArray) : (bs s).length = s.size := by simp [bs]
/-- a string, framed -/
def fld (s : ByteArray) : List Nat := uv s.size ++ bs s
set_option maxRecDepth 100000 in
set_option maxHeartbeats 1000000 in
theorem appendStr_any (base : Nat) (s : ByteArray) (d0 : Value) (xs : List Nat) (w : World) (hown : Own base w d0 xs) (hb : base ≤ w.heap.size) (hlen : xs.length ≤ 900000000) (hs : s.size ≤ 10000000) :
    Calls Try.prog 13 #[d0, .string s] w fun e w' => ∃ d', e = .returned d' ∧ Own base w' d' (xs ++ fld s) ∧ Below base w w' := by
  obtain ⟨i0, hi, hz0, hz1, hz2⟩ := info_parts Try.info5
  go_enter Try.func13, Try.ntmps13
  go_wp2_with fail
  refine (appendUvar_any base s.size d0 xs _ (by omega) hown hb (by omega)).mono ?_
  rintro e w1 ⟨d1, rfl, ho1, hb1⟩
  have hu := uv_len s.size
  go_wp2_with fail
  go_loopw [0, 5] (fun dv i wr => ∃ (k : Nat), i = .int .i64 (k : Int) ∧ k ≤ s.size ∧ Own base wr dv (xs ++ uv s.size ++ (bs s).take k) ∧ Below base w wr) (fun _ i _ => s.size - (intOf i).toNat)
  case atStart => exact ⟨0, rfl, Nat.zero_le _, by simpa using ho1, hb1⟩
  case round =>
    obtain ⟨k, rfl, hk, ho, hbr⟩ := hrel
    have hsz := hbr.size
    by_cases hlt : k < s.size
    · unfold Own at ho
      have hl : (xs ++ uv s.size ++ (bs s).take k).length ≤ 1000000000 := by
        rw [List.length_append, List.length_append, List.length_take, bs_len]; omega
      generalize hcur : xs ++ uv s.size ++ (bs s).take k = cur at ho hl
      have HC : Hid (xs ++ uv s.size ++ (bs s).take k = cur) := hcur
      clear hcur
      go_wp2_with (first
        | (at_builtin; refine wpList_append_own _ rfl _ _ 32 rfl base 5 i0 (.int .u8 0) 1 1 Try.underlying32 hi hz0 hz1 hz2 rfl (by decide) _ _ _ rfl (ho.alloc _) ⟨wr.heap.size, 0, none⟩ 1 1 [.int .u8 (s[k].toNat : Int)] rfl rfl (cell_one_new _ _ _) (ints_oneCell .u8 [(s[k].toNat : Int)]) (by unfold maxLen; omega) (by omega) (by simp; omega) ?_; intro v' w1 hown' hgrow hnil)
        | go_in)
      obtain ⟨o1, o2⟩ := own_step ho hbr hb hown' hgrow
      go_roundw
      case rel =>
        refine ⟨k + 1, by go_num, by omega, ?_, o2⟩
        have e : (bs s).take (k + 1) = (bs s).take k ++ [s[k].toNat] := by
          rw [List.take_succ_eq_append_getElem (by rw [bs_len]; exact hlt)]
          congr 1
          simp [bs]; rfl
        rw [e, ← List.append_assoc, HC.out]
        exact o1
      case measure => simp [intOf]; omega
    · go_wp2_with fail
      go_ret
      refine ⟨_, rfl, ?_, hbr⟩
      rw [List.take_of_length_le (by rw [bs_len]; omega), List.append_assoc] at ho
      exact ho
end Go.Proofs.Qxb6604343a
