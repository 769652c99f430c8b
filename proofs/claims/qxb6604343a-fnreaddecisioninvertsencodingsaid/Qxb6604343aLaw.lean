/-
  THE WALK of FnReadDecisionInvertsEncoding, out of the contracts.
-/
import Derived.Test.Qxb6604343aLawNe
namespace Go.Proofs.Qxb6604343a
open Go.RowKit
open Wire
set_option linter.unusedVariables false

set_option maxRecDepth 100000 in
set_option maxHeartbeats 8000000 in
theorem law_zero (id : ByteArray) (a0 a1 a2 : Option Addr) (c0 c1 c2 : Nat) (nm : Nat → ByteArray) (gz rz : Nat → Int) (w : World)
    (h : id.size ≤ maxLen) (hs0 : Sl w a0 0 (strV nm)) (hz0 : Hid (a0 = none → c0 = 0)) (hz1 : Hid (a1 = none → c1 = 0)) (hz2 : Hid (a2 = none → c2 = 0)) :
    Calls Try.prog 5 #[.string id, .slice a0 0 c0, .slice a1 0 c1, .slice a2 0 c2] w fun e w' => e = .returned (.bool true) ∧ Below w.heap.size w w' := by
  have m : id.size ≤ 9223372036854775807 := h
  go_enter Try.func5, Try.ntmps5
  go_wp2_with fail
  refine (bytes_any id a0 a1 a2 0 0 0 c0 c1 c2 nm _ h (Nat.zero_le _) (Nat.zero_le _) (Nat.zero_le _) hs0).mono ?_
  rintro e w' ⟨⟨bb, rfl, hbz⟩, hw⟩
  obtain rfl : w = w' := hw.symm
  clear hw
  cases bb
  · go_wp2_with fail
    go_ret
    exact ⟨rfl, Below.refl _ _⟩
  have HZ := (show Hid (∀ j, j < 0 → (nm j).size ≤ 1048576) from hbz rfl)
  clear hbz
  by_cases q : 1048576 < id.size
  · go_wp2_with fail
    go_ret
    exact ⟨rfl, Below.refl _ _⟩
  go_wp2_with fail
  go_loop [9, 10] (fun z i => (∃ x, z = .int .i64 x) ∧ i = .int .i64 0) (fun _ i => 0)
  case atStart => exact ⟨⟨_, rfl⟩, rfl⟩
  case round =>
    obtain ⟨⟨x, rfl⟩, rfl⟩ := hrel
    go_wp2_with fail
    go_loop [11] (fun i => i = .int .i64 0) (fun i => 0)
    case atStart => exact rfl
    case round =>
      obtain rfl := hrel
      go_wp2_with fail
      refine (cloneS_any a0 0 c0 nm _ (fun e => ⟨rfl, hz0.out e⟩) (by omega) hs0).mono ?_
      rintro e w1 ⟨⟨a0', c0', rfl, _, hb1⟩, _⟩
      go_wp2_with fail
      refine (cloneI_any a1 0 c1 gz _ (fun e => ⟨rfl, hz1.out e⟩) (by omega) (fun h => by omega)).mono ?_
      rintro e w2 ⟨⟨a1', c1', rfl, _, hb2⟩, _⟩
      go_wp2_with fail
      refine (cloneI_any a2 0 c2 rz _ (fun e => ⟨rfl, hz2.out e⟩) (by omega) (fun h => by omega)).mono ?_
      rintro e w3 ⟨⟨a2', c2', rfl, _, hb3⟩, _⟩
      have B3 : Below w.heap.size w w3 := (hb1.trans (hb2.mono hb1.size)).trans (hb3.mono (Nat.le_trans hb1.size hb2.size))
      clear hb1 hb2 hb3
      go_wp2_with fail
      refine (appendStr_any w3.heap.size id (.slice none 0 0) [] w3 (own_nil _ _) (Nat.le_refl _) (by simp) (by omega)).mono ?_
      rintro e w4 ⟨d4, rfl, ho4, hb4⟩
      go_wp2_with fail
      refine (appendUvar_any w3.heap.size 0 d4 _ w4 (by omega) ho4 hb4.size (by rw [List.length_append]; unfold fld; rw [List.length_append, bs_len]; have := (uv_len id.size).1; simp; omega)).mono ?_
      rintro e w5 ⟨d5, rfl, ho5, hb5⟩
      have B5 : Below w.heap.size w w5 := B3.trans ((hb4.trans hb5).mono B3.size)
      obtain ⟨T, hT⟩ : ∃ T, T = [] ++ fld id ++ uv 0 := ⟨_, rfl⟩
      rw [← hT] at ho5
      have hT2 : T = fld id ++ (uv 0 ++ restF nm (fun _ => 0) (fun _ => 0) 0 0) := by rw [hT]; simp [restF]
      have hlen : 0 < T.length ∧ T.length ≤ 1000000000 := by
        rw [hT]; unfold fld
        simp only [List.length_append, List.length_nil, bs_len]
        have := (uv_len id.size).1
        have := uv_len 0
        omega
      obtain ⟨bb, cap, hv, k1, k2, hBd⟩ := body_of_own ho5 hlen.1 hlen.2
      have C := (show Hid (Calls Try.prog 15 #[d5] w5 fun e w' => ∃ pb, e = .returned (.tuple #[.bool true, .string id, .slice (some ⟨pb, 0, none⟩) 0 0, .bool (decide ((0 : Nat) ≠ 0))]) ∧ w'.rowIs pb 40 (0 * 3) (PK nm (fun _ => 0) (fun _ => 0)) ∧ Below w5.heap.size w5 w') from by
        rw [hv]
        exact zzread_any bb T.length cap 0 id nm (fun _ => 0) (fun _ => 0) T w5 hBd hT2 (fun j hj => by omega) (fun j hj => by omega) k1 k2 (by omega))
      clear hv hBd hT hT2 ho5 ho4 hb4 hb5 B3
      go_wp2_with fail
      go_loop [12, 13] (fun b i => b = d5 ∧ i = .int .i64 0) (fun _ i => 0)
      case atStart => exact ⟨rfl, rfl⟩
      case round =>
        obtain ⟨rfl, rfl⟩ := hrel
        go_wp2_with fail
        refine C.out.mono ?_
        rintro e w6 ⟨pb, rfl, hrow, hb6⟩
        have B6 : Below w.heap.size w w6 := B5.trans (hb6.mono B5.size)
        go_wp2_with fail
        go_loop [18] (fun i => i = .int .i64 0) (fun i => 0)
        case atStart => exact rfl
        case round =>
          obtain rfl := hrel
          go_wp2_with fail
          go_ret
          exact ⟨rfl, B6⟩
theorem nat_of {n : Nat} {z : Nat → Int} (h : ∀ j, j < n → 0 ≤ z j) (hm : ∀ j, j < n → z j ≤ 9223372036854775807) : ∃ g : Nat → Nat, ∀ j, j < n → z j = (g j : Int) ∧ g j < 9223372036854775808 :=
  ⟨fun j => (z j).toNat, fun j hj => by
    have a := h j hj
    have b := hm j hj
    show z j = ((z j).toNat : Int) ∧ (z j).toNat < 9223372036854775808
    omega⟩
theorem fld_len (s : ByteArray) : (fld s).length ≤ s.size + 10 := by
  unfold fld
  rw [List.length_append, bs_len]
  have := (uv_len s.size).1
  omega
set_option maxRecDepth 100000 in
set_option maxHeartbeats 8000000 in
theorem law_pos (id : ByteArray) (b0 o0 b1 o1 b2 o2 n c0 c1 c2 : Nat) (nm : Nat → ByteArray) (gz rz : Nat → Int) (w : World)
    (h : id.size ≤ maxLen) (h0 : n ≤ maxLen) (hpos : 0 < n) (hs0 : Sl w (some ⟨b0, o0, none⟩) n (strV nm)) (hs1 : Sl w (some ⟨b1, o1, none⟩) n (intV gz)) (hs2 : Sl w (some ⟨b2, o2, none⟩) n (intV rz))
    (hc0 : ∀ j, j < n → w.cell? ⟨b0, o0 + j, none⟩ = some (.string (nm j))) (hc1 : ∀ j, j < n → w.cell? ⟨b1, o1 + j, none⟩ = some (.int .i64 (gz j))) (hc2 : ∀ j, j < n → w.cell? ⟨b2, o2 + j, none⟩ = some (.int .i64 (rz j)))
    (hgm : Hid (∀ j, j < n → gz j ≤ 9223372036854775807)) (hrm : Hid (∀ j, j < n → rz j ≤ 9223372036854775807)) :
    Calls Try.prog 5 #[.string id, .slice (some ⟨b0, o0, none⟩) n c0, .slice (some ⟨b1, o1, none⟩) n c1, .slice (some ⟨b2, o2, none⟩) n c2] w fun e w' => e = .returned (.bool true) ∧ Below w.heap.size w w' := by
  have m : id.size ≤ 9223372036854775807 := h
  have m0 : n ≤ 9223372036854775807 := h0
  go_enter Try.func5, Try.ntmps5
  go_wp2_with fail
  refine (bytes_any id _ _ _ n n n c0 c1 c2 nm _ h h0 h0 h0 hs0).mono ?_
  rintro e w' ⟨⟨bb, rfl, hbz⟩, hw⟩
  obtain rfl : w = w' := hw.symm
  clear hw
  cases bb
  · go_wp2_with fail
    go_ret
    exact ⟨rfl, Below.refl _ _⟩
  have HZ := (show Hid (∀ j, j < n → (nm j).size ≤ 1048576) from hbz rfl)
  clear hbz
  by_cases q : 1048576 < id.size
  · go_wp2_with fail
    go_ret
    exact ⟨rfl, Below.refl _ _⟩
  by_cases q0 : 131072 < n
  · go_wp2_with fail
    go_ret
    exact ⟨rfl, Below.refl _ _⟩
  by_cases q3 : 1048576 < (id.size : Int) + 8 * (n : Int) + 8 * (n : Int) + 8 * (n : Int)
  · go_wp2_with fail
    go_ret
    exact ⟨rfl, Below.refl _ _⟩
  go_wp2_with fail
  go_loop [9, 10] (fun z i => ∃ (k : Nat), z = .int .i64 ((id.size + 24 * n + sumSz nm k : Nat) : Int) ∧ i = .int .i64 (k : Int) ∧ k ≤ n ∧ id.size + 24 * n + sumSz nm k ≤ 1048576) (fun _ i => n - (intOf i).toNat)
  case atStart => exact ⟨0, val_int (by show _ = ((id.size + 24 * n + 0 : Nat) : Int); omega), rfl, Nat.zero_le _, by show id.size + 24 * n + 0 ≤ 1048576; omega⟩
  case round =>
    obtain ⟨k, rfl, rfl, hk, hsum⟩ := hrel
    by_cases hlt : k < n
    · have hck := hc0 k hlt
      have hszk : (nm k).size ≤ 1048576 := HZ.out k hlt
      have hss : sumSz nm (k + 1) = sumSz nm k + (nm k).size := rfl
      have HSS : Hid (sumSz nm (k + 1) = sumSz nm k + (nm k).size) := hss
      clear hss
      generalize sumSz nm k = sk at hsum HSS ⊢
      by_cases hbig : 1048576 < id.size + 24 * n + sk + (nm k).size
      · go_wp2_with fail
        go_ret
        exact ⟨rfl, Below.refl _ _⟩
      · go_wp2_with fail
        go_round
        case rel => exact ⟨k + 1, val_int (by rw [HSS.out]; omega), by go_num, by omega, by rw [HSS.out]; omega⟩
        case measure => simp [intOf]; omega
    · obtain rfl : n = k := by omega
      have HSUM : Hid (id.size + 24 * n + sumSz nm n ≤ 1048576) := hsum
      clear hsum hk hlt
      go_wp2_with fail
      go_loop [11] (fun i => ∃ (k : Nat), i = .int .i64 (k : Int) ∧ k ≤ n ∧ Hid (∀ j, j < k → 0 ≤ gz j ∧ 0 ≤ rz j)) (fun i => n - (intOf i).toNat)
      case atStart => exact ⟨0, rfl, Nat.zero_le _, fun j hj => by omega⟩
      case round =>
        obtain ⟨k, rfl, hk, hok⟩ := hrel
        by_cases hlt : k < n
        · have g1 := hc1 k hlt
          have r1 := hc2 k hlt
          clear hc0 hc1 hc2
          by_cases n1 : gz k < 0
          · go_wp2_with fail
            go_ret
            exact ⟨rfl, Below.refl _ _⟩
          · by_cases n2 : rz k < 0
            · go_wp2_with fail
              go_ret
              exact ⟨rfl, Below.refl _ _⟩
            · go_wp2_with fail
              go_round
              case rel => exact ⟨k + 1, by go_num, by omega, fun j hj => by
                rcases Nat.lt_succ_iff_lt_or_eq.1 hj with h | rfl
                · exact hok.out j h
                · exact ⟨by omega, by omega⟩⟩
              case measure => simp [intOf]; omega
        · obtain rfl : n = k := by omega
          obtain ⟨g, hg⟩ := nat_of (fun j hj => (hok.out j hj).1) hgm.out
          obtain ⟨r, hr⟩ := nat_of (fun j hj => (hok.out j hj).2) hrm.out
          have HG := (show Hid (∀ j, j < n → gz j = (g j : Int) ∧ g j < 9223372036854775808) from hg)
          have HR := (show Hid (∀ j, j < n → rz j = (r j : Int) ∧ r j < 9223372036854775808) from hr)
          clear hg hr hok hgm hrm hc0 hc1 hc2 hk hlt
          go_wp2_with fail
          refine (cloneS_any _ n c0 nm _ (fun e => by cases e) (by omega) hs0).mono ?_
          rintro e w1 ⟨⟨a0', c0', rfl, hr0, hb1⟩, _⟩
          obtain ⟨rfl, hr0⟩ := hr0 hpos
          go_wp2_with fail
          refine (cloneI_any _ n c1 gz _ (fun e => by cases e) (by omega) (hs1.below hb1)).mono ?_
          rintro e w2 ⟨⟨a1', c1', rfl, hr1, hb2⟩, _⟩
          obtain ⟨rfl, hr1⟩ := hr1 hpos
          go_wp2_with fail
          refine (cloneI_any _ n c2 rz _ (fun e => by cases e) (by omega) ((hs2.below hb1).below hb2)).mono ?_
          rintro e w3 ⟨⟨a2', c2', rfl, hr2, hb3⟩, _⟩
          obtain ⟨rfl, hr2⟩ := hr2 hpos
          have z1 : w.heap.size < w1.heap.size := (hr0 hpos).2.lt
          have z2 : w1.heap.size < w2.heap.size := (hr1 hpos).2.lt
          have z3 : w2.heap.size < w3.heap.size := (hr2 hpos).2.lt
          have R0 : w3.rowIs w.heap.size 9 n (strV nm) := rowBelow (rowBelow (hr0 hpos).2 hb2 z1) hb3 (by omega)
          have R1 : w3.rowIs w1.heap.size 2 n (intV gz) := rowBelow (hr1 hpos).2 hb3 z2
          have R2 : w3.rowIs w2.heap.size 2 n (intV rz) := (hr2 hpos).2
          have C0 : ∀ j, j < n → w3.cell? ⟨w.heap.size, j, none⟩ = some (.string (nm j)) := fun j hj => R0.cell hj
          have C1 : ∀ j, j < n → w3.cell? ⟨w1.heap.size, j, none⟩ = some (.int .i64 (g j : Int)) := fun j hj => by rw [← (HG.out j hj).1]; exact R1.cell hj
          have C2 : ∀ j, j < n → w3.cell? ⟨w2.heap.size, j, none⟩ = some (.int .i64 (r j : Int)) := fun j hj => by rw [← (HR.out j hj).1]; exact R2.cell hj
          have B3 : Below w.heap.size w w3 := (hb1.trans (hb2.mono (by omega))).trans (hb3.mono (by omega))
          clear hr0 hr1 hr2 hb1 hb2 hb3 hs0 hs1 hs2 R0 R1 R2
          generalize w1.heap.size = kb1 at z1 z2 C1 ⊢
          generalize w2.heap.size = kb2 at z2 z3 C2 ⊢
          go_wp2_with fail
          refine (appendStr_any w3.heap.size id (.slice none 0 0) [] w3 (own_nil _ _) (Nat.le_refl _) (by simp) (by omega)).mono ?_
          rintro e w4 ⟨d4, rfl, ho4, hb4⟩
          have flen : (fld id).length ≤ 1048586 := by unfold fld; rw [List.length_append, bs_len]; have := (uv_len id.size).1; omega
          go_wp2_with fail
          refine (appendUvar_any w3.heap.size n d4 _ w4 (by omega) ho4 hb4.size (by simp; omega)).mono ?_
          rintro e w5 ⟨d5, rfl, ho5, hb5⟩
          have hb35 := hb4.trans hb5
          clear ho4 hb4 hb5
          rw [List.nil_append] at ho5
          go_wp2_with fail
          go_loopw [12, 13] (fun dv i wr => ∃ (k : Nat), i = .int .i64 (k : Int) ∧ k ≤ n ∧ Own w3.heap.size wr dv (fld id ++ uv n ++ encTo nm g r k) ∧ Below w3.heap.size w3 wr) (fun _ i _ => n - (intOf i).toNat)
          case atStart => exact ⟨0, rfl, Nat.zero_le _, by rw [show encTo nm g r 0 = [] from rfl, List.append_nil]; exact ho5, hb35⟩
          case round =>
            clear ho5 hb35
            obtain ⟨k, rfl, hk, ho, hbr⟩ := hrel
            have hel : (fld id ++ uv n ++ encTo nm g r k).length ≤ 9000000 := by
              rw [List.length_append, List.length_append]
              have := encTo_len nm g r k
              have := (uv_len n).1
              have := sumSz_mono nm hk
              have := HSUM.out
              omega
            by_cases hlt : k < n
            · have cn := (hbr.cell (p := ⟨w.heap.size, k, none⟩) (by show w.heap.size < w3.heap.size; omega)).trans (C0 k hlt)
              have hszk : (nm k).size ≤ 1048576 := HZ.out k hlt
              have gk := (HG.out k hlt).2
              have rk := (HR.out k hlt).2
              go_wp2_with fail
              refine (appendStr_any w3.heap.size (nm k) _ _ wr ho hbr.size (by omega) (by omega)).mono ?_
              rintro e w6 ⟨d6, rfl, ho6, hb6⟩
              have hbr6 := hbr.trans hb6
              have cg := (hbr6.cell (p := ⟨kb1, k, none⟩) (by show kb1 < w3.heap.size; omega)).trans (C1 k hlt)
              have hel6 : (fld id ++ uv n ++ encTo nm g r k ++ fld (nm k)).length ≤ 11000000 := by
                rw [List.length_append]; have := fld_len (nm k); omega
              go_wp2_with fail
              refine (appendUvar_any w3.heap.size (g k) _ _ w6 (by omega) ho6 hbr6.size (by omega)).mono ?_
              rintro e w7 ⟨d7, rfl, ho7, hb7⟩
              have hbr7 := hbr6.trans hb7
              have cr := (hbr7.cell (p := ⟨kb2, k, none⟩) (by show kb2 < w3.heap.size; omega)).trans (C2 k hlt)
              go_wp2_with fail
              refine (appendUvar_any w3.heap.size (r k) _ _ w7 (by omega) ho7 hbr7.size (by rw [List.length_append]; have := (uv_len (g k)).1; omega)).mono ?_
              rintro e w8 ⟨d8, rfl, ho8, hb8⟩
              have hbr8 := hbr7.trans hb8
              have ho9 : Own w3.heap.size w8 d8 (fld id ++ uv n ++ encTo nm g r (k + 1)) := by
                have e : fld id ++ uv n ++ encTo nm g r k ++ fld (nm k) ++ uv (g k) ++ uv (r k) = fld id ++ uv n ++ encTo nm g r (k + 1) := by
                  show _ = fld id ++ uv n ++ (encTo nm g r k ++ (fld (nm k) ++ uv (g k) ++ uv (r k)))
                  simp only [List.append_assoc]
                rw [← e]; exact ho8
              clear ho ho6 ho7 ho8 hb6 hb7 hb8 cn cg cr hel hel6 hbr hbr6 hbr7
              go_wp2_with fail
              go_roundw
              case rel => exact ⟨k + 1, by go_num, by omega, ho9, hbr8⟩
              case measure => simp [intOf]; omega
            · obtain rfl : n = k := by omega
              clear hk hlt
              rename_i dv iv
              have he := encTo_all nm g r n
              obtain ⟨T, hT⟩ : ∃ T, T = fld id ++ uv n ++ encTo nm g r n := ⟨_, rfl⟩
              rw [← hT] at ho hel
              have hT2 : T = fld id ++ (uv n ++ restF nm g r 0 n) := by rw [hT, he, List.append_assoc]
              have hlen : 0 < T.length := by
                rw [hT]
                simp only [List.length_append]
                have := (uv_len n).2
                omega
              obtain ⟨bb, cap, hv, k1, k2, hBd⟩ := body_of_own ho hlen (by omega)
              have C := (show Hid (∀ d, d = .slice (some ⟨bb, 0, none⟩) T.length cap → Calls Try.prog 15 #[d] wr fun e w' => ∃ pb, e = .returned (.tuple #[.bool true, .string id, .slice (some ⟨pb, 0, none⟩) n n, .bool true]) ∧ w'.rowIs pb 40 (n * 3) (PK nm g r) ∧ Below wr.heap.size wr w') from fun d hd => by
                rw [hd]
                have hz := zzread_any bb T.length cap n id nm g r T wr hBd hT2 (fun j hj => (HG.out j hj).2) (fun j hj => (HR.out j hj).2) k1 k2 (by omega)
                rw [decide_eq_true (show n ≠ 0 by omega)] at hz
                exact hz)
              have HV := (show Hid (_ = Value.slice (some ⟨bb, 0, none⟩) T.length cap) from hv)
              clear hv hBd hT hT2 ho he hel hlen
              go_wp2_with fail
              refine (C.out _ HV.out).mono ?_
              rintro e w6 ⟨pb, rfl, hrow, hb6⟩
              have b36 := hbr.trans (hb6.mono hbr.size)
              have E0 : ∀ j, j < n → w6.cell? ⟨w.heap.size, j, none⟩ = some (.string (nm j)) := fun j hj => (b36.cell (p := ⟨w.heap.size, j, none⟩) (by show w.heap.size < w3.heap.size; omega)).trans (C0 j hj)
              have E1 : ∀ j, j < n → w6.cell? ⟨kb1, j, none⟩ = some (.int .i64 (g j : Int)) := fun j hj => (b36.cell (p := ⟨kb1, j, none⟩) (by show kb1 < w3.heap.size; omega)).trans (C1 j hj)
              have E2 : ∀ j, j < n → w6.cell? ⟨kb2, j, none⟩ = some (.int .i64 (r j : Int)) := fun j hj => (b36.cell (p := ⟨kb2, j, none⟩) (by show kb2 < w3.heap.size; omega)).trans (C2 j hj)
              have B6 : Below w.heap.size w w6 := B3.trans (b36.mono (by omega))
              have nz1 : ((n : Int) != 0) = true := by simp; omega
              have nz2 : (!((n : Int) != 0)) = false := by simp; omega
              clear C HV C0 C1 C2 hb6 hbr b36 B3 HG HR
              go_wp2_with fail
              go_loopw [18] (fun i wr => ∃ (k : Nat), i = .int .i64 (k : Int) ∧ k ≤ n ∧ ∃ nq, wr = w6.drewN nq) (fun i _ => n - (intOf i).toNat)
              case atStart => exact ⟨0, rfl, Nat.zero_le _, 0, rfl⟩
              case round =>
                obtain ⟨k, rfl, hk, nq, rfl⟩ := hrel
                by_cases hlt : k < n
                · have e0 := E0 k hlt
                  have e1 := E1 k hlt
                  have e2 := E2 k hlt
                  have e3 : k * 3 = 3 * k := Nat.mul_comm _ _
                  have p0 := hrow.cell (show k * 3 < n * 3 by omega)
                  have p1 := hrow.cell (show k * 3 + 1 < n * 3 by omega)
                  have p2 := hrow.cell (show k * 3 + 2 < n * 3 by omega)
                  rw [e3, PK0] at p0
                  rw [e3, PK1] at p1
                  rw [e3, PK2] at p2
                  rw [← e3] at p0 p1 p2
                  clear e3 E0 E1 E2 hrow
                  have i1 : (k : Int) < (n : Int) := by omega
                  go_wp2_with fail
                  go_quiet (fail)
                  go_wp2
                  go_roundw
                  case rel => exact ⟨k + 1, by go_num, by omega, _, rfl⟩
                  case measure => simp [intOf]; omega
                · go_wp2_with fail
                  go_ret
                  exact ⟨rfl, below_drewN B6 _⟩
theorem law_walk (id : ByteArray) (a0 a1 a2 : Option Addr) (l0 l1 l2 c0 c1 c2 : Nat) (nm : Nat → ByteArray) (gz rz : Nat → Int) (w : World)
    (h : id.size ≤ maxLen) (h0 : l0 ≤ maxLen) (h1 : l1 ≤ maxLen) (h2 : l2 ≤ maxLen) (hs0 : Sl w a0 l0 (strV nm)) (hs1 : Sl w a1 l1 (intV gz)) (hs2 : Sl w a2 l2 (intV rz))
    (hz0 : a0 = none → l0 = 0 ∧ c0 = 0) (hz1 : a1 = none → l1 = 0 ∧ c1 = 0) (hz2 : a2 = none → l2 = 0 ∧ c2 = 0) (hsz : ∀ j, j < l0 → (nm j).size ≤ maxLen)
    (hgm : ∀ j, j < l1 → gz j ≤ 9223372036854775807) (hrm : ∀ j, j < l2 → rz j ≤ 9223372036854775807) :
    Calls Try.prog 5 #[.string id, .slice a0 l0 c0, .slice a1 l1 c1, .slice a2 l2 c2] w fun e w' => e = .returned (.bool true) ∧ Below w.heap.size w w' := by
  rcases Nat.eq_zero_or_pos l0 with rfl | hpos
  · by_cases e : l1 = 0 ∧ l2 = 0
    · obtain ⟨rfl, rfl⟩ := e
      exact law_zero id a0 a1 a2 c0 c1 c2 nm gz rz w h hs0 (fun e => (hz0 e).2) (fun e => (hz1 e).2) (fun e => (hz2 e).2)
    · exact law_ne0 id a0 a1 a2 l1 l2 c0 c1 c2 nm gz rz w h h1 h2 hs0 e
  · obtain ⟨b0, o0, rfl, hc0⟩ := hs0 hpos
    by_cases e1 : l1 = l0
    · obtain rfl : l0 = l1 := e1.symm
      by_cases e2 : l2 = l0
      · obtain rfl : l0 = l2 := e2.symm
        obtain ⟨b1, o1, rfl, hc1⟩ := hs1 hpos
        obtain ⟨b2, o2, rfl, hc2⟩ := hs2 hpos
        exact law_pos id b0 o0 b1 o1 b2 o2 l0 c0 c1 c2 nm gz rz w h h0 hpos hs0 hs1 hs2 hc0 hc1 hc2 hgm hrm
      · exact law_ne1b id b0 o0 a1 a2 l0 l2 c0 c1 c2 nm gz rz w h h0 h1 h2 hs0 hc0 e2 hsz
    · exact law_ne1a id b0 o0 a1 a2 l0 l1 l2 c0 c1 c2 nm gz rz w h h0 h1 h2 hs0 hc0 e1 hsz
end Go.Proofs.Qxb6604343a
