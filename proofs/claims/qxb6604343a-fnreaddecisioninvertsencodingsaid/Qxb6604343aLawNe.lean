/-
  PLAIN LAWS of the encoding; the walks of FnReadDecisionInvertsEncoding where the lengths differ.
-/
import Derived.Test.Qxb6604343aSmalls
namespace Go.Proofs.Qxb6604343a
open Go.RowKit
open Wire
set_option linter.unusedVariables false

/-- the sum of the first k sizes -/
def sumSz (nm : Nat → ByteArray) : Nat → Nat
  | 0 => 0
  | k + 1 => sumSz nm k + (nm k).size
theorem sumSz_mono (nm : Nat → ByteArray) {j k : Nat} (h : j ≤ k) : sumSz nm j ≤ sumSz nm k := by
  induction k with
  | zero => rw [Nat.le_zero.1 h]; exact Nat.le_refl _
  | succ k ih =>
    rcases Nat.le_or_eq_of_le_succ h with h1 | rfl
    · exact Nat.le_trans (ih h1) (Nat.le_add_right _ _)
    · exact Nat.le_refl _
theorem size_le_sum (nm : Nat → ByteArray) {j k : Nat} (h : j < k) : (nm j).size ≤ sumSz nm k := by
  have h1 : sumSz nm (j + 1) ≤ sumSz nm k := sumSz_mono nm h
  have h2 : sumSz nm (j + 1) = sumSz nm j + (nm j).size := rfl
  omega
/-- the first k parts, written -/
def encTo (nm : Nat → ByteArray) (g r : Nat → Nat) : Nat → List Nat
  | 0 => []
  | k + 1 => encTo nm g r k ++ part nm g r k
theorem part_len (nm : Nat → ByteArray) (g r : Nat → Nat) (k : Nat) : (part nm g r k).length ≤ (nm k).size + 30 := by
  unfold part fld
  simp only [List.length_append, bs_len]
  have := (uv_len (nm k).size).1
  have := (uv_len (g k)).1
  have := (uv_len (r k)).1
  omega
theorem encTo_len (nm : Nat → ByteArray) (g r : Nat → Nat) (k : Nat) : (encTo nm g r k).length ≤ sumSz nm k + 30 * k := by
  induction k with
  | zero => exact Nat.le_refl _
  | succ k ih =>
    show (encTo nm g r k ++ part nm g r k).length ≤ sumSz nm k + (nm k).size + 30 * (k + 1)
    rw [List.length_append]
    have := part_len nm g r k
    omega
theorem encTo_rest (nm : Nat → ByteArray) (g r : Nat → Nat) (k m : Nat) : encTo nm g r k ++ restF nm g r k m = restF nm g r 0 (k + m) := by
  induction k generalizing m with
  | zero => show [] ++ restF nm g r 0 m = restF nm g r 0 (0 + m); rw [Nat.zero_add]; rfl
  | succ k ih =>
    have := ih (m + 1)
    show encTo nm g r k ++ part nm g r k ++ restF nm g r (k + 1) m = restF nm g r 0 (k + 1 + m)
    rw [List.append_assoc, show k + 1 + m = k + (m + 1) by omega, ← this]
    rfl
theorem encTo_all (nm : Nat → ByteArray) (g r : Nat → Nat) (n : Nat) : encTo nm g r n = restF nm g r 0 n := by
  have := encTo_rest nm g r n 0
  rwa [show restF nm g r n 0 = [] from rfl, List.append_nil, Nat.add_zero] at this

/-- what was written can be read -/
theorem body_of_own {base : Nat} {w : World} {d : Value} {T : List Nat} (h : Own base w d T) (hpos : 0 < T.length) (hle : T.length ≤ 1000000000) :
    ∃ bb cap, d = .slice (some ⟨bb, 0, none⟩) T.length cap ∧ T.length ≤ cap ∧ cap ≤ maxLen ∧ Body w bb T.length T := by
  obtain ⟨hl, h⟩ := h
  rcases h with ⟨_, h0⟩ | ⟨gb, cap, cur, hv, hb, hblk, h1, h2, h3, h4⟩
  · omega
  · refine ⟨gb, cap, hv, h1, h2, rfl, hle, fun j hj => ?_⟩
    have e : cur.toList[j]? = some (B8 (T.getD j 0)) := by
      have : (cur.toList.take (T.length * 1))[j]? = some (B8 (T.getD j 0)) := by
        rw [h4, List.getElem?_map, List.getD_eq_getElem?_getD, List.getElem?_eq_getElem hj]; rfl
      rwa [List.getElem?_take_of_lt (by omega)] at this
    have e2 : cur[j]? = some (B8 (T.getD j 0)) := by rw [← Array.getElem?_toList]; exact e
    simp [World.cell?, hblk, e2]
    rfl
theorem own_nil (base : Nat) (w : World) : Own base w (.slice none 0 0) [] := World.ownsRow_nil _ _ _ _

/-! ### the walks -/
set_option maxRecDepth 100000 in
set_option maxHeartbeats 4000000 in
theorem law_ne0 (id : ByteArray) (a0 a1 a2 : Option Addr) (l1 l2 c0 c1 c2 : Nat) (nm : Nat → ByteArray) (gz rz : Nat → Int) (w : World)
    (h : id.size ≤ maxLen) (h1 : l1 ≤ maxLen) (h2 : l2 ≤ maxLen) (hs0 : Sl w a0 0 (strV nm)) (hne : ¬ (l1 = 0 ∧ l2 = 0)) :
    Calls Try.prog 5 #[.string id, .slice a0 0 c0, .slice a1 l1 c1, .slice a2 l2 c2] w fun e w' => e = .returned (.bool true) ∧ Below w.heap.size w w' := by
  have m : id.size ≤ 9223372036854775807 := h
  have m1 : l1 ≤ 9223372036854775807 := h1
  have m2 : l2 ≤ 9223372036854775807 := h2
  go_enter Try.func5, Try.ntmps5
  go_wp2_with fail
  refine (bytes_any id a0 a1 a2 0 l1 l2 c0 c1 c2 nm _ h (Nat.zero_le _) h1 h2 hs0).mono ?_
  rintro e w' ⟨⟨bb, rfl, hbz⟩, hw⟩
  obtain rfl : w = w' := hw.symm
  clear hw
  cases bb
  · go_wp2_with fail
    go_ret
    exact ⟨rfl, Below.refl _ _⟩
  have HZ := (show Hid (∀ j, j < 0 → (nm j).size ≤ 1048576) from hbz rfl)
  clear hbz
  by_cases q : 1048576 < id.size
  · go_wp2_with fail
    go_ret
    exact ⟨rfl, Below.refl _ _⟩
  by_cases q1 : 131072 < l1
  · go_wp2_with fail
    go_ret
    exact ⟨rfl, Below.refl _ _⟩
  by_cases q2 : 131072 < l2
  · go_wp2_with fail
    go_ret
    exact ⟨rfl, Below.refl _ _⟩
  by_cases q3 : 1048576 < (id.size : Int) + 8 * (l1 : Int) + 8 * (l2 : Int)
  · go_wp2_with fail
    go_ret
    exact ⟨rfl, Below.refl _ _⟩
  go_wp2_with fail
  go_loop [9, 10] (fun z i => (∃ x, z = .int .i64 x) ∧ i = .int .i64 0) (fun _ i => 0)
  case atStart => exact ⟨⟨_, rfl⟩, rfl⟩
  case round =>
    obtain ⟨⟨x, rfl⟩, rfl⟩ := hrel
    by_cases e1 : l1 = 0
    · subst e1
      have e2 : ¬ l2 = 0 := fun e => hne ⟨rfl, e⟩
      have e3 : ((l2 : Int) == 0) = false := by simp; omega
      go_wp2_with fail
      go_ret
      exact ⟨rfl, Below.refl _ _⟩
    · have e3 : ((l1 : Int) == 0) = false := by simp; omega
      go_wp2_with fail
      go_ret
      exact ⟨rfl, Below.refl _ _⟩
set_option maxRecDepth 100000 in
set_option maxHeartbeats 4000000 in
theorem law_ne1a (id : ByteArray) (b0 o0 : Nat) (a1 a2 : Option Addr) (l0 l1 l2 c0 c1 c2 : Nat) (nm : Nat → ByteArray) (gz rz : Nat → Int) (w : World)
    (h : id.size ≤ maxLen) (h0 : l0 ≤ maxLen) (h1 : l1 ≤ maxLen) (h2 : l2 ≤ maxLen) (hs0 : Sl w (some ⟨b0, o0, none⟩) l0 (strV nm)) (hc0 : ∀ j, j < l0 → w.cell? ⟨b0, o0 + j, none⟩ = some (.string (nm j))) (hne : ¬ l1 = l0) (hsz : ∀ j, j < l0 → (nm j).size ≤ maxLen) :
    Calls Try.prog 5 #[.string id, .slice (some ⟨b0, o0, none⟩) l0 c0, .slice a1 l1 c1, .slice a2 l2 c2] w fun e w' => e = .returned (.bool true) ∧ Below w.heap.size w w' := by
  have m : id.size ≤ 9223372036854775807 := h
  have m0 : l0 ≤ 9223372036854775807 := h0
  have m1 : l1 ≤ 9223372036854775807 := h1
  have m2 : l2 ≤ 9223372036854775807 := h2
  go_enter Try.func5, Try.ntmps5
  go_wp2_with fail
  refine (bytes_any id _ a1 a2 l0 l1 l2 c0 c1 c2 nm _ h h0 h1 h2 hs0).mono ?_
  rintro e w' ⟨⟨bb, rfl, hbz⟩, hw⟩
  obtain rfl : w = w' := hw.symm
  clear hw
  cases bb
  · go_wp2_with fail
    go_ret
    exact ⟨rfl, Below.refl _ _⟩
  have HZ := (show Hid (∀ j, j < l0 → (nm j).size ≤ 1048576) from hbz rfl)
  clear hbz
  by_cases q : 1048576 < id.size
  · go_wp2_with fail
    go_ret
    exact ⟨rfl, Below.refl _ _⟩
  by_cases q0 : 131072 < l0
  · go_wp2_with fail
    go_ret
    exact ⟨rfl, Below.refl _ _⟩
  by_cases q1 : 131072 < l1
  · go_wp2_with fail
    go_ret
    exact ⟨rfl, Below.refl _ _⟩
  by_cases q2 : 131072 < l2
  · go_wp2_with fail
    go_ret
    exact ⟨rfl, Below.refl _ _⟩
  by_cases q3 : 1048576 < (id.size : Int) + 8 * (l0 : Int) + 8 * (l1 : Int) + 8 * (l2 : Int)
  · go_wp2_with fail
    go_ret
    exact ⟨rfl, Below.refl _ _⟩
  go_wp2_with fail
  go_loop [9, 10] (fun z i => ∃ (x : Int) (k : Nat), z = .int .i64 x ∧ i = .int .i64 k ∧ k ≤ l0) (fun _ i => l0 - (intOf i).toNat)
  case atStart => exact ⟨_, 0, rfl, rfl, Nat.zero_le _⟩
  case round =>
    obtain ⟨x, k, rfl, rfl, hk⟩ := hrel
    by_cases hlt : k < l0
    · have hck := hc0 k hlt
      clear hc0 hne
      go_wp2_with fail
      all_goals first | (go_ret; exact ⟨rfl, Below.refl _ _⟩) | skip
      go_round
      case rel => exact ⟨_, k + 1, rfl, by go_num, by omega⟩
      case measure => simp [intOf]; omega
    · have e3 : ((l1 : Int) == (l0 : Int)) = false := by simp; omega
      clear hne
      go_wp2_with fail
      go_ret
      exact ⟨rfl, Below.refl _ _⟩
set_option maxRecDepth 100000 in
set_option maxHeartbeats 4000000 in
theorem law_ne1b (id : ByteArray) (b0 o0 : Nat) (a1 a2 : Option Addr) (l0 l2 c0 c1 c2 : Nat) (nm : Nat → ByteArray) (gz rz : Nat → Int) (w : World)
    (h : id.size ≤ maxLen) (h0 : l0 ≤ maxLen) (h1 : l0 ≤ maxLen) (h2 : l2 ≤ maxLen) (hs0 : Sl w (some ⟨b0, o0, none⟩) l0 (strV nm)) (hc0 : ∀ j, j < l0 → w.cell? ⟨b0, o0 + j, none⟩ = some (.string (nm j))) (hne : ¬ l2 = l0) (hsz : ∀ j, j < l0 → (nm j).size ≤ maxLen) :
    Calls Try.prog 5 #[.string id, .slice (some ⟨b0, o0, none⟩) l0 c0, .slice a1 l0 c1, .slice a2 l2 c2] w fun e w' => e = .returned (.bool true) ∧ Below w.heap.size w w' := by
  have m : id.size ≤ 9223372036854775807 := h
  have m0 : l0 ≤ 9223372036854775807 := h0
  have m1 : l0 ≤ 9223372036854775807 := h1
  have m2 : l2 ≤ 9223372036854775807 := h2
  go_enter Try.func5, Try.ntmps5
  go_wp2_with fail
  refine (bytes_any id _ a1 a2 l0 l0 l2 c0 c1 c2 nm _ h h0 h1 h2 hs0).mono ?_
  rintro e w' ⟨⟨bb, rfl, hbz⟩, hw⟩
  obtain rfl : w = w' := hw.symm
  clear hw
  cases bb
  · go_wp2_with fail
    go_ret
    exact ⟨rfl, Below.refl _ _⟩
  have HZ := (show Hid (∀ j, j < l0 → (nm j).size ≤ 1048576) from hbz rfl)
  clear hbz
  by_cases q : 1048576 < id.size
  · go_wp2_with fail
    go_ret
    exact ⟨rfl, Below.refl _ _⟩
  by_cases q0 : 131072 < l0
  · go_wp2_with fail
    go_ret
    exact ⟨rfl, Below.refl _ _⟩
  by_cases q2 : 131072 < l2
  · go_wp2_with fail
    go_ret
    exact ⟨rfl, Below.refl _ _⟩
  by_cases q3 : 1048576 < (id.size : Int) + 8 * (l0 : Int) + 8 * (l0 : Int) + 8 * (l2 : Int)
  · go_wp2_with fail
    go_ret
    exact ⟨rfl, Below.refl _ _⟩
  go_wp2_with fail
  go_loop [9, 10] (fun z i => ∃ (x : Int) (k : Nat), z = .int .i64 x ∧ i = .int .i64 k ∧ k ≤ l0) (fun _ i => l0 - (intOf i).toNat)
  case atStart => exact ⟨_, 0, rfl, rfl, Nat.zero_le _⟩
  case round =>
    obtain ⟨x, k, rfl, rfl, hk⟩ := hrel
    by_cases hlt : k < l0
    · have hck := hc0 k hlt
      clear hc0 hne
      go_wp2_with fail
      all_goals first | (go_ret; exact ⟨rfl, Below.refl _ _⟩) | skip
      go_round
      case rel => exact ⟨_, k + 1, rfl, by go_num, by omega⟩
      case measure => simp [intOf]; omega
    · have e4 : ((l2 : Int) == (l0 : Int)) = false := by simp; omega
      clear hne
      go_wp2_with fail
      go_ret
      exact ⟨rfl, Below.refl _ _⟩
end Go.Proofs.Qxb6604343a
