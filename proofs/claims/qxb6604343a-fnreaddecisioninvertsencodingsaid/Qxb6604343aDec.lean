/-
  CONTRACTS of encoding/binary.Uvarint, readNumber, messageFrame, nextMessage, readField: the record format, read.
-/
import Derived.Test.Qxb6604343aEnc
import Derived.Laws.BytesArg
namespace Go.Proofs.Qxb6604343a
open Go.RowKit
open Wire
set_option linter.unusedVariables false

theorem ret_tup {a b : Array Value} (h : a = b) : Ending.returned (.tuple a) = .returned (.tuple b) := by rw [h]
theorem ret_ii {k l : IntKind} {a b a' b' : Int} (h : a = a') (h2 : b = b') : Ending.returned (.tuple #[.int k a, .int l b]) = .returned (.tuple #[.int k a', .int l b']) := by rw [h, h2]
theorem getD_drop {L R : List Nat} {i b : Nat} (h : L.drop i = b :: R) : L.getD i 0 = b ∧ i < L.length ∧ L.drop (i + 1) = R := by
  have h1 : (L.drop i)[0]? = some b := by rw [h]; rfl
  rw [List.getElem?_drop, Nat.add_zero] at h1
  refine ⟨by rw [List.getD_eq_getElem?_getD, h1]; rfl, ?_, ?_⟩
  · obtain ⟨hlt, _⟩ := List.getElem?_eq_some_iff.1 h1; exact hlt
  · rw [← List.drop_drop, h]; rfl

theorem orShift (x d i : Nat) (hx : x < pw i) (h64 : x + d * pw i < 18446744073709551616) : bits .or .u64 (x : Int) (IntKind.u64.wrap ((d : Int) * 2 ^ (7 * i))) = ((x + d * pw i : Nat) : Int) := by
  have e : (d : Int) * 2 ^ (7 * i) = ((d * pw i : Nat) : Int) := by rw [pw_eq, Int.natCast_mul, Int.natCast_pow]; rfl
  rw [e, IntKind.wrap_u64, show ((d * pw i : Nat) : Int) % 18446744073709551616 = ((d * pw i : Nat) : Int) by omega, u64_or_nat _ _ (by omega) (by omega), Nat.or_comm]
  rw [nat_join (7 * i) (d * pw i) x (by rw [pw_eq]; exact Nat.mul_mod_left _ _) (by rw [← pw_eq]; exact hx), Nat.add_comm]
theorem and127 : ∀ x : Fin 256, x.1 &&& 127 = x.1 % 128 := by decide +kernel
theorem byteAnd (v : Nat) : bits .and .u8 ((v : Int) % 128 + 128) 127 = ((v % 128 : Nat) : Int) := by
  have e : (v : Int) % 128 + 128 = ((v % 128 + 128 : Nat) : Int) := by omega
  rw [e]
  have h := u8_and_nat (v % 128 + 128) 127 (by omega) (by omega)
  have h2 := and127 ⟨v % 128 + 128, by omega⟩
  simp only at h2
  rw [h2, show (v % 128 + 128) % 128 = v % 128 by omega] at h
  exact h

set_option maxRecDepth 100000 in
set_option maxHeartbeats 1000000 in
theorem uvarint_any (bb o m c v : Nat) (L rest : List Nat) (w : World) (hL : L = uv v ++ rest) (hm : L.length = m) (hv : v < 9223372036854775808) (hm2 : m ≤ 1000000000)
    (hc : ∀ j, j < m → w.cell? ⟨bb, o + j, none⟩ = some (.int .u8 ((L.getD j 0 : Nat) : Int))) :
    Calls Try.prog 31 #[.slice (some ⟨bb, o, none⟩) m c] w fun e w' => e = .returned (.tuple #[.int .u64 (v : Int), .int .i64 ((uv v).length : Int)]) ∧ w' = w := by
  go_enter Try.func31, Try.ntmps31
  go_wp2
  go_loop [4, 5, 10] (fun xv sv iv => ∃ (i f v' x : Nat), iv = .int .i64 (i : Int) ∧ xv = .int .u64 (x : Int) ∧ sv = .int .u64 ((7 * i : Nat) : Int) ∧ f + i = 9 ∧ v' < pw (f + 1) ∧ v = x + v' * pw i ∧ x < pw i ∧ L.drop i = uvF f v' ++ rest ∧ (uv v).length = i + (uvF f v').length ∧ (0 < i → 0 < v')) (fun _ _ iv => m - (intOf iv).toNat)
  case atStart => exact ⟨0, 9, v, 0, rfl, rfl, rfl, rfl, u64_pw (by omega), by simp [pw], by simp [pw], by simpa [uv] using hL, by simp [uv], fun h => by omega⟩
  case round =>
    obtain ⟨i, f, v', x, rfl, rfl, rfl, hfi, hv', hval, hx, hdrop, hlen, hnz⟩ := hrel
    have HV : Hid (v = x + v' * pw i) := hval
    have HL : Hid ((uv v).length = i + (uvF f v').length) := hlen
    have HD : Hid (L.drop i = uvF f v' ++ rest) := hdrop
    clear hval hlen hdrop hL
    by_cases h128 : v' < 128
    · have hd := HD.out
      rw [uvF_small f v' h128] at hd
      obtain ⟨g1, g2, g3⟩ := getD_drop hd
      have hck := hc i (by omega)
      rw [g1] at hck
      have i1 : (i : Int) < (m : Int) := by omega
      clear hd g1 g3
      have hfin : bits .or .u64 (x : Int) (IntKind.u64.wrap ((v' : Int) * 2 ^ (7 * i))) = (v : Int) := by
        have := HV.out
        rw [orShift x v' i hx (by omega), ← HV.out]
      have hlen2 : ((uv v).length : Int) = (i : Int) + 1 := by
        have := HL.out
        rw [uvF_small f v' h128] at this
        rw [this]; rfl
      have HF : Hid (bits .or .u64 (x : Int) (IntKind.u64.wrap ((v' : Int) * 2 ^ (7 * i))) = (v : Int)) := hfin
      have HN : Hid (((uv v).length : Int) = (i : Int) + 1) := hlen2
      clear hfin hlen2
      by_cases h9 : i = 9
      · exfalso
        have e := HV.out
        rw [h9] at e
        have e9 : pw 9 = 9223372036854775808 := rfl
        rw [e9] at e
        have := hnz (by omega)
        omega
      · go_wp2
        go_ret2
        exact ⟨ret_ii HF.out HN.out.symm, rfl⟩
    · obtain ⟨f', rfl⟩ : ∃ f', f = f' + 1 := ⟨f - 1, by cases f with | zero => simp [pw] at hv'; omega | succ f => rfl⟩
      have hd := HD.out
      rw [uvF_big f' v' h128] at hd
      obtain ⟨g1, g2, g3⟩ := getD_drop hd
      have hck := hc i (by omega)
      rw [g1] at hck
      have i1 : (i : Int) < (m : Int) := by omega
      have i2 : (i : Int) ≤ 8 := by omega
      clear hd g1
      have HG : Hid (L.drop (i + 1) = uvF f' (v' / 128) ++ rest) := g3
      clear g3
      go_wp2
      go_round
      case rel =>
        have e := HV.out
        have e1 := step_val v x i v' e
        have e2 := step_lt x i (v' % 128) hx (by omega)
        refine ⟨i + 1, f', v' / 128, x + v' % 128 * pw i, by go_num, val_int ?_, val_int (by omega), by omega, div_pw hv', e1, e2, HG.out, ?_, fun _ => by omega⟩
        · have ew : IntKind.u64.wrap ((v' % 128 : Nat) : Int) = ((v' % 128 : Nat) : Int) := by rw [IntKind.wrap_u64]; omega
          rw [byteAnd, ew, orShift x (v' % 128) i hx (by omega)]
        · have := HL.out
          rw [uvF_big f' v' h128, List.length_cons] at this
          omega
      case measure => simp [intOf]; omega

/-- the body that is read: a row of bytes at the head of a block -/
structure Body (w : World) (bb n : Nat) (T : List Nat) : Prop where
  len : T.length = n
  le : n ≤ 1000000000
  cell : ∀ j, j < n → w.cell? ⟨bb, j, none⟩ = some (.int .u8 ((T.getD j 0 : Nat) : Int))
theorem getD_at (T : List Nat) (i j : Nat) : (T.drop i).getD j 0 = T.getD (i + j) 0 := by
  rw [List.getD_eq_getElem?_getD, List.getD_eq_getElem?_getD, List.getElem?_drop]
/-- Uvarint at a place of the body -/
theorem uvarint_at (bb n a c v : Nat) (T rest : List Nat) (w : World) (hB : Body w bb n T) (hd : T.drop a = uv v ++ rest) (hv : v < 9223372036854775808) :
    Calls Try.prog 31 #[.slice (some ⟨bb, a, none⟩) (n - a) c] w fun e w' => e = .returned (.tuple #[.int .u64 (v : Int), .int .i64 ((uv v).length : Int)]) ∧ w' = w :=
  uvarint_any bb a (n - a) c v (T.drop a) rest w hd (by rw [List.length_drop, hB.len]) hv (by have := hB.le; omega) (fun j hj => by rw [getD_at]; exact hB.cell (a + j) (by omega))
theorem drop_len {T rest : List Nat} {a v n : Nat} (hT : T.length = n) (hd : T.drop a = uv v ++ rest) : a + (uv v).length + rest.length = n ∧ a < n := by
  have h := congrArg List.length hd
  rw [List.length_drop, List.length_append, hT] at h
  have := (uv_len v).2
  omega

theorem ret_sib {l : IntKind} {b b' : Int} (c : Bool) (s : ByteArray) (h2 : b = b') : Ending.returned (.tuple #[.string s, .int l b, .bool c]) = .returned (.tuple #[.string s, .int l b', .bool c]) := by rw [h2]
theorem ret_iib {k l : IntKind} {a b a' b' : Int} (c : Bool) (h : a = a') (h2 : b = b') : Ending.returned (.tuple #[.int k a, .int l b, .bool c]) = .returned (.tuple #[.int k a', .int l b', .bool c]) := by rw [h, h2]
set_option maxRecDepth 100000 in
set_option maxHeartbeats 1000000 in
theorem readNumber_any (bb n a c v : Nat) (T rest : List Nat) (w : World) (hB : Body w bb n T) (hd : T.drop a = uv v ++ rest) (hv : v < 9223372036854775808) (hc : n ≤ c) (hc2 : c ≤ maxLen) :
    Calls Try.prog 29 #[.slice (some ⟨bb, 0, none⟩) n c, .int .i64 (a : Int)] w fun e w' => e = .returned (.tuple #[.int .i64 (v : Int), .int .i64 ((a + (uv v).length : Nat) : Int), .bool true]) ∧ w' = w := by
  obtain ⟨hl1, hl2⟩ := drop_len hB.len hd
  have hl3 : a + (uv v).length ≤ n := by omega
  have hle := hB.le
  obtain ⟨hu1, hu2⟩ := uv_len v
  have C := (show Hid (∀ c, Calls Try.prog 31 #[.slice (some ⟨bb, a, none⟩) (n - a) c] w fun e w' => e = .returned (.tuple #[.int .u64 (v : Int), .int .i64 ((uv v).length : Int)]) ∧ w' = w) from fun c => uvarint_at bb n a c v T rest w hB hd hv)
  have a1 : (a : Int) ≤ (n : Int) := by omega
  unfold maxLen at hc2
  clear hd hB hl1
  generalize (uv v).length = q at C hu1 hu2 hl3 ⊢
  go_enter Try.func29, Try.ntmps29
  go_wp2_with fail
  refine (C.out _).mono ?_
  rintro e w' ⟨rfl, rfl⟩
  go_wp2_with fail
  go_ret3
  exact ⟨ret_iib true rfl (by omega), rfl⟩
set_option maxRecDepth 100000 in
set_option maxHeartbeats 1000000 in
theorem frame_any (bb n a c u : Nat) (T rest : List Nat) (w : World) (hB : Body w bb n T) (hd : T.drop a = uv u ++ rest) (hv : u ≤ rest.length) :
    Calls Try.prog 32 #[.slice (some ⟨bb, a, none⟩) (n - a) c, .int .i64 ((n : Int) - (a : Int))] w fun e w' => e = .returned (.tuple #[.int .i64 ((uv u).length : Int), .int .i64 (u : Int), .bool true]) ∧ w' = w := by
  obtain ⟨hl1, hl2⟩ := drop_len hB.len hd
  have hl3 : a + (uv u).length + u ≤ n := by omega
  have hle := hB.le
  obtain ⟨hu1, hu2⟩ := uv_len u
  have C := (show Hid (Calls Try.prog 31 #[.slice (some ⟨bb, a, none⟩) (n - a) c] w fun e w' => e = .returned (.tuple #[.int .u64 (u : Int), .int .i64 ((uv u).length : Int)]) ∧ w' = w) from uvarint_at bb n a c u T rest w hB hd (by omega))
  clear hd hB hl1 hv
  generalize (uv u).length = q at C hu1 hu2 hl3 ⊢
  go_enter Try.func32, Try.ntmps32
  go_wp2_with fail
  refine C.out.mono ?_
  rintro e w' ⟨rfl, rfl⟩
  go_wp2_with fail
  go_ret3
  exact ⟨rfl, rfl⟩
set_option maxRecDepth 100000 in
set_option maxHeartbeats 1000000 in
theorem next_any (bb n a c u : Nat) (T rest : List Nat) (w : World) (hB : Body w bb n T) (hd : T.drop a = uv u ++ rest) (hv : u ≤ rest.length) (hc : n ≤ c) (hc2 : c ≤ maxLen) :
    Calls Try.prog 30 #[.slice (some ⟨bb, 0, none⟩) n c, .int .i64 (a : Int)] w fun e w' => e = .returned (.tuple #[.int .i64 ((a + (uv u).length : Nat) : Int), .int .i64 ((a + (uv u).length + u : Nat) : Int), .bool true]) ∧ w' = w := by
  obtain ⟨hl1, hl2⟩ := drop_len hB.len hd
  have hl3 : a + (uv u).length + u ≤ n := by omega
  have hle := hB.le
  obtain ⟨hu1, hu2⟩ := uv_len u
  have C := (show Hid (∀ c, Calls Try.prog 32 #[.slice (some ⟨bb, a, none⟩) (n - a) c, .int .i64 ((n : Int) - (a : Int))] w fun e w' => e = .returned (.tuple #[.int .i64 ((uv u).length : Int), .int .i64 (u : Int), .bool true]) ∧ w' = w) from fun c => frame_any bb n a c u T rest w hB hd hv)
  have a1 : (a : Int) ≤ (n : Int) := by omega
  unfold maxLen at hc2
  clear hd hB hl1 hv
  generalize (uv u).length = q at C hu1 hu2 hl3 ⊢
  go_enter Try.func30, Try.ntmps30
  go_wp2_with fail
  refine (C.out _).mono ?_
  rintro e w' ⟨rfl, rfl⟩
  go_wp2_with fail
  go_ret3
  exact ⟨ret_iib true (by omega) (by omega), rfl⟩
/-- the string that a run of bytes makes -/
theorem str_of (s : ByteArray) : strOfNums ((bs s).map (fun (n : Nat) => (n : Int))) = s := by
  unfold strOfNums bs
  cases s with
  | mk d =>
    congr 1
    apply Array.ext'
    show List.map _ (List.map _ (List.map _ d.toList)) = d.toList
    rw [List.map_map, List.map_map]
    have : ∀ x ∈ d.toList, (((fun (n : Int) => UInt8.ofNat n.toNat) ∘ (fun (n : Nat) => (n : Int))) ∘ UInt8.toNat) x = id x := by
      intro x _
      simp
    rw [List.map_congr_left this, List.map_id]
theorem drop_fld {T rest : List Nat} {a : Nat} {s : ByteArray} (hd : T.drop a = fld s ++ rest) : T.drop a = uv s.size ++ (bs s ++ rest) := by rw [hd]; unfold fld; rw [List.append_assoc]
set_option maxRecDepth 100000 in
set_option maxHeartbeats 1000000 in
theorem readField_any (bb n a c : Nat) (s : ByteArray) (T rest : List Nat) (w : World) (hB : Body w bb n T) (hd : T.drop a = fld s ++ rest) (hc : n ≤ c) (hc2 : c ≤ maxLen) :
    Calls Try.prog 28 #[.slice (some ⟨bb, 0, none⟩) n c, .int .i64 (a : Int)] w fun e w' => e = .returned (.tuple #[.string s, .int .i64 ((a + (fld s).length : Nat) : Int), .bool true]) ∧ w' = w := by
  have hd2 := drop_fld hd
  obtain ⟨hl1, hl2⟩ := drop_len hB.len hd2
  rw [List.length_append, bs_len] at hl1
  have hl3 : a + (uv s.size).length + s.size ≤ n := by omega
  have hle := hB.le
  have hf : (fld s).length = (uv s.size).length + s.size := by unfold fld; rw [List.length_append, bs_len]
  have C := (show Hid (Calls Try.prog 30 #[.slice (some ⟨bb, 0, none⟩) n c, .int .i64 (a : Int)] w fun e w' => e = .returned (.tuple #[.int .i64 ((a + (uv s.size).length : Nat) : Int), .int .i64 ((a + (uv s.size).length + s.size : Nat) : Int), .bool true]) ∧ w' = w) from next_any bb n a c s.size T (bs s ++ rest) w hB hd2 (by rw [List.length_append, bs_len]; omega) hc hc2)
  have hcv : ∀ cp, (convert 32 9 (.slice (some ⟨bb, a + (uv s.size).length, none⟩) s.size cp)).run Try.prog w = .ok (.string s) w := fun cp => by
    have := run_convert_bytes_arg (P := Try.prog) w 32 5 Try.underlying32 Try.underlying5 bb (a + (uv s.size).length) s.size cp ((bs s).map (fun (n : Nat) => (n : Int))) (by simp [bs_len]) (fun i hi => by
      rw [hB.cell _ (by omega)]
      congr 2
      have e1 : T.getD (a + (uv s.size).length + i) 0 = (bs s).getD i 0 := by
        rw [Nat.add_assoc, ← getD_at, hd2, List.getD_eq_getElem?_getD, List.getElem?_append_right (by omega), Nat.add_sub_cancel_left, List.getElem?_append_left (by rw [bs_len]; exact hi), ← List.getD_eq_getElem?_getD]
      rw [e1]
      have hi' : i < (bs s).length := by rw [bs_len]; exact hi
      rw [List.getD_eq_getElem?_getD, List.getD_eq_getElem?_getD, List.getElem?_map, List.getElem?_eq_getElem hi']
      rfl) 9 Try.underlying9
    rwa [str_of] at this
  have hcv0 : s.size = 0 → ∀ o cp, (convert 32 9 (.slice (some ⟨bb, o, none⟩) 0 cp)).run Try.prog w = .ok (.string s) w := fun h0 o cp => by
    have := run_convert_bytes_arg (P := Try.prog) w 32 5 Try.underlying32 Try.underlying5 bb o 0 cp [] rfl (fun i hi => by omega) 9 Try.underlying9
    have e : bs s = [] := List.eq_nil_of_length_eq_zero (by rw [bs_len]; exact h0)
    have e2 := str_of s
    rw [e] at e2
    rw [← e2]; exact this
  unfold maxLen at hc2
  rw [hf]
  clear hd hd2 hB hl1 hf
  generalize (uv s.size).length = q at C hcv hl3 ⊢
  generalize hss : s.size = m at C hcv hl3 hcv0 ⊢
  clear hss
  by_cases hq : c = a + q
  · subst hq
    obtain rfl : m = 0 := by omega
    have hcv1 := hcv0 rfl
    clear hcv hcv0
    go_enter Try.func28, Try.ntmps28
    go_wp2_with fail
    refine C.out.mono ?_
    rintro e w' ⟨rfl, rfl⟩
    go_wp2_with fail
    go_ret3
    exact ⟨ret_sib true s (by omega), rfl⟩
  · clear hcv0
    go_enter Try.func28, Try.ntmps28
    go_wp2_with fail
    refine C.out.mono ?_
    rintro e w' ⟨rfl, rfl⟩
    go_wp2_with fail
    go_ret3
    exact ⟨ret_sib true s (by omega), rfl⟩
end Go.Proofs.Qxb6604343a
