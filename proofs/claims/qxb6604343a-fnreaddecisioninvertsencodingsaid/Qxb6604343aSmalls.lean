/-
  CONTRACTS of the small functions on the road of FnReadDecisionInvertsEncoding: zzBytes, the clones.
-/
import Derived.Test.Qxb6604343aShim
namespace Go.Proofs.Qxb6604343a
open Go.RowKit
open Wire
set_option linter.unusedVariables false

/-- a slice that is read: of n elements, element j holding 'f j' -/
def Sl (w : World) (a : Option Addr) (n : Nat) (f : Nat → Value) : Prop := 0 < n → ∃ b o, a = some ⟨b, o, none⟩ ∧ ∀ j, j < n → w.cell? ⟨b, o + j, none⟩ = some (f j)
def strV (ss : Nat → ByteArray) (j : Nat) : Value := .string (ss j)
def intV (zs : Nat → Int) (j : Nat) : Value := .int .i64 (zs j)
/-- some bool came back -/
def IsBool (e : Ending) : Prop := ∃ b, e = .returned (.bool b)
theorem isBool (b : Bool) : IsBool (.returned (.bool b)) := ⟨b, rfl⟩
theorem Try.info9 : (Try.prog.info? 9).map (fun i => (i.zero, i.size, i.bytes)) = some (some (.string ByteArray.empty), 1, 16) := by kernel_rfl
theorem Try.info2 : (Try.prog.info? 2).map (fun i => (i.zero, i.size, i.bytes)) = some (some (.int .i64 0), 1, 8) := by kernel_rfl

/-- a bool came back; if true, no string is great -/
def SzOk (ss : Nat → ByteArray) (n : Nat) (e : Ending) : Prop := ∃ b, e = .returned (.bool b) ∧ (b = true → ∀ j, j < n → (ss j).size ≤ 1048576)
theorem szNo (ss : Nat → ByteArray) (n : Nat) : SzOk ss n (.returned (.bool false)) := ⟨false, rfl, fun h => by cases h⟩
theorem szYes {ss : Nat → ByteArray} {n : Nat} (h : ∀ j, j < n → (ss j).size ≤ 1048576) : SzOk ss n (.returned (.bool true)) := ⟨true, rfl, fun _ => h⟩
set_option maxHeartbeats 1000000 in
theorem bytes_any (s : ByteArray) (a0 a1 a2 : Option Addr) (l0 l1 l2 c0 c1 c2 : Nat) (ss : Nat → ByteArray) (w : World) (h : s.size ≤ maxLen) (h0 : l0 ≤ maxLen) (h1 : l1 ≤ maxLen) (h2 : l2 ≤ maxLen) (hs : Sl w a0 l0 (strV ss)) :
    Calls Try.prog 10 #[.string s, .slice a0 l0 c0, .slice a1 l1 c1, .slice a2 l2 c2] w fun e w' => SzOk ss l0 e ∧ w' = w := by
  unfold maxLen at h h0 h1 h2
  rcases Nat.eq_zero_or_pos l0 with rfl | hn
  · go_enter Try.func10, Try.ntmps10
    go_wp2
    all_goals first | (go_ret; exact ⟨szNo _ _, rfl⟩) | skip
    go_loop [9, 10] (fun z i => (∃ x, z = .int .i64 x) ∧ i = .int .i64 0) (fun _ i => 0)
    case atStart => exact ⟨⟨_, rfl⟩, rfl⟩
    case round =>
      obtain ⟨⟨x, rfl⟩, rfl⟩ := hrel
      go_wp2
      all_goals (go_ret; first | exact ⟨szNo _ _, rfl⟩ | exact ⟨szYes (fun j hj => by omega), rfl⟩)
  · obtain ⟨b, o, rfl, hc⟩ := hs hn
    unfold strV at hc
    go_enter Try.func10, Try.ntmps10
    go_wp2
    all_goals first | (go_ret; exact ⟨szNo _ _, rfl⟩) | skip
    go_loop [9, 10] (fun z i => ∃ (x : Int) (k : Nat), z = .int .i64 x ∧ i = .int .i64 k ∧ k ≤ l0 ∧ Hid (∀ j, j < k → (ss j).size ≤ 1048576)) (fun _ i => l0 - (intOf i).toNat)
    case atStart => exact ⟨_, 0, rfl, rfl, by omega, fun j hj => by omega⟩
    case round =>
      obtain ⟨x, k, rfl, rfl, hk, hok⟩ := hrel
      by_cases hlt : k < l0
      · have hck := hc k hlt
        by_cases hbig : (ss k).size ≤ 1048576
        · go_wp2
          all_goals first | (go_ret; exact ⟨szNo _ _, rfl⟩) | skip
          go_round
          case rel => exact ⟨_, k + 1, rfl, by go_num, by omega, fun j hj => by
            rcases Nat.lt_succ_iff_lt_or_eq.1 hj with h | rfl
            · exact hok.out j h
            · exact hbig⟩
          case measure => simp [intOf]; omega
        · go_wp2
          go_ret
          exact ⟨szNo _ _, rfl⟩
      · go_wp2
        all_goals (go_ret; first | exact ⟨szNo _ _, rfl⟩ | exact ⟨szYes (fun j hj => hok.out j (by omega)), rfl⟩)

/-- what a clone gives: a slice of n elements, in a new row -/
def Cloned (w w' : World) (t : TypeId) (n : Nat) (f : Nat → Value) (e : Ending) : Prop :=
  ∃ a c, e = .returned (.slice a n c) ∧ (0 < n → a = some ⟨w.heap.size, 0, none⟩ ∧ w'.rowIs w.heap.size t n f) ∧ Below w.heap.size w w'
theorem row_step1 {w : World} {b : Nat} {t : TypeId} {n k : Nat} {f : Nat → Value} {z : Value} (h : w.rowIs b t n (fun j => if j < k then f j else z)) :
    (w.setCell ⟨b, k, none⟩ (f k)).rowIs b t n (fun j => if j < k + 1 then f j else z) :=
  (h.set k (f k)).congr (fun j _ => by
    show (if j = k then f k else if j < k then f j else z) = if j < k + 1 then f j else z
    by_cases e : j = k
    · subst e; simp
    · by_cases e2 : j < k
      · rw [if_neg e, if_pos e2, if_pos (by omega)]
      · rw [if_neg e, if_neg e2, if_neg (by omega)])
theorem cloneS_nil (w : World) (f : Nat → Value) : Calls Try.prog 11 #[.slice none 0 0] w fun e w' => Cloned w w' 9 0 f e ∧ True := by
  have hnil := fun (wx : World) (l c n' c' : Nat) => Lib.run_eql_slice_nil (P := Try.prog) wx 27 9 none l c n' c' Try.underlying27
  go_enter Try.func11, Try.ntmps11
  go_wp2
  go_ret
  exact ⟨⟨_, _, rfl, fun h => by omega, Below.refl _ _⟩, trivial⟩
theorem cloneS_some (x : Addr) (n c : Nat) (ss : Nat → ByteArray) (w : World) (hn : n ≤ 131072) (hs : Sl w (some x) n (strV ss)) : Calls Try.prog 11 #[.slice (some x) n c] w fun e w' => Cloned w w' 9 n (strV ss) e ∧ True := by
  have hmk := run_make_row' (P := Try.prog) 27 9 (Value.string ByteArray.empty) 16 Try.underlying27 Try.info9 rfl .i64 .i64 n (by omega) (by omega)
  have hnil := fun (wx : World) (l c n' c' : Nat) => Lib.run_eql_slice_nil (P := Try.prog) wx 27 9 (some x) l c n' c' Try.underlying27
  go_enter Try.func11, Try.ntmps11
  go_wp2
  go_loopw [4] (fun i wr => ∃ k : Nat, i = .int .i64 k ∧ k ≤ n ∧ wr.rowIs w.heap.size 9 n (fun j => if j < k then strV ss j else Value.string ByteArray.empty) ∧ Below w.heap.size w wr) (fun i _ => n - (intOf i).toNat)
  case atStart => exact ⟨0, rfl, by omega, (World.rowIs_made _ _ _ _).congr (fun i hi => by simp), (Below.refl _ _).alloc (Nat.le_refl _) _⟩
  case round =>
    obtain ⟨k, rfl, hk, hrow, hbel⟩ := hrel
    by_cases hlt : k < n
    · obtain ⟨b, o, hx, hc⟩ := hs (by omega)
      cases hx
      have hck := hc k hlt
      have hck2 : wr.cell? ⟨b, o + k, none⟩ = some (strV ss k) := (hbel.cell (cell_lt hck)).trans hck
      have hold := hrow.cell hlt
      rw [if_neg (Nat.lt_irrefl k)] at hold
      have hfz := hrow.frozen k
      have HR := row_step1 hrow
      have HR2 : Hid (World.rowIs (wr.setCell ⟨w.heap.size, k, none⟩ (strV ss k)) w.heap.size 9 n (fun j => if j < k + 1 then strV ss j else Value.string ByteArray.empty)) := HR
      clear hrow HR hc hck hs
      unfold strV at hck2
      go_wp2
      go_roundw
      case rel => exact ⟨k + 1, by go_num, by omega, HR2.out, hbel.setCell (Nat.le_refl _) _⟩
      case measure => simp [intOf]; omega
    · go_wp2
      go_ret
      exact ⟨⟨_, _, rfl, fun h => ⟨rfl, hrow.congr (fun i hi => if_pos (by omega))⟩, hbel⟩, trivial⟩
theorem cloneI_nil (w : World) (f : Nat → Value) : Calls Try.prog 12 #[.slice none 0 0] w fun e w' => Cloned w w' 2 0 f e ∧ True := by
  have hnil := fun (wx : World) (l c n' c' : Nat) => Lib.run_eql_slice_nil (P := Try.prog) wx 28 2 none l c n' c' Try.underlying28
  go_enter Try.func12, Try.ntmps12
  go_wp2
  go_ret
  exact ⟨⟨_, _, rfl, fun h => by omega, Below.refl _ _⟩, trivial⟩
theorem cloneI_some (x : Addr) (n c : Nat) (zs : Nat → Int) (w : World) (hn : n ≤ 131072) (hs : Sl w (some x) n (intV zs)) : Calls Try.prog 12 #[.slice (some x) n c] w fun e w' => Cloned w w' 2 n (intV zs) e ∧ True := by
  have hmk := run_make_row' (P := Try.prog) 28 2 (Value.int .i64 0) 8 Try.underlying28 Try.info2 rfl .i64 .i64 n (by omega) (by omega)
  have hnil := fun (wx : World) (l c n' c' : Nat) => Lib.run_eql_slice_nil (P := Try.prog) wx 28 2 (some x) l c n' c' Try.underlying28
  go_enter Try.func12, Try.ntmps12
  go_wp2
  go_loopw [4] (fun i wr => ∃ k : Nat, i = .int .i64 k ∧ k ≤ n ∧ wr.rowIs w.heap.size 2 n (fun j => if j < k then intV zs j else Value.int .i64 0) ∧ Below w.heap.size w wr) (fun i _ => n - (intOf i).toNat)
  case atStart => exact ⟨0, rfl, by omega, (World.rowIs_made _ _ _ _).congr (fun i hi => by simp), (Below.refl _ _).alloc (Nat.le_refl _) _⟩
  case round =>
    obtain ⟨k, rfl, hk, hrow, hbel⟩ := hrel
    by_cases hlt : k < n
    · obtain ⟨b, o, hx, hc⟩ := hs (by omega)
      cases hx
      have hck := hc k hlt
      have hck2 : wr.cell? ⟨b, o + k, none⟩ = some (intV zs k) := (hbel.cell (cell_lt hck)).trans hck
      have hold := hrow.cell hlt
      rw [if_neg (Nat.lt_irrefl k)] at hold
      have hfz := hrow.frozen k
      have HR := row_step1 hrow
      have HR2 : Hid (World.rowIs (wr.setCell ⟨w.heap.size, k, none⟩ (intV zs k)) w.heap.size 2 n (fun j => if j < k + 1 then intV zs j else Value.int .i64 0)) := HR
      clear hrow HR hc hck hs
      unfold intV at hck2
      go_wp2
      go_roundw
      case rel => exact ⟨k + 1, by go_num, by omega, HR2.out, hbel.setCell (Nat.le_refl _) _⟩
      case measure => simp [intOf]; omega
    · go_wp2
      go_ret
      exact ⟨⟨_, _, rfl, fun h => ⟨rfl, hrow.congr (fun i hi => if_pos (by omega))⟩, hbel⟩, trivial⟩

theorem cloneS_any (a : Option Addr) (n c : Nat) (ss : Nat → ByteArray) (w : World) (hz : a = none → n = 0 ∧ c = 0) (hn : n ≤ 131072) (hs : Sl w a n (strV ss)) : Calls Try.prog 11 #[.slice a n c] w fun e w' => Cloned w w' 9 n (strV ss) e ∧ True := by
  cases a with
  | none => obtain ⟨rfl, rfl⟩ := hz rfl; exact cloneS_nil w _
  | some x => exact cloneS_some x n c ss w hn hs
theorem cloneI_any (a : Option Addr) (n c : Nat) (zs : Nat → Int) (w : World) (hz : a = none → n = 0 ∧ c = 0) (hn : n ≤ 131072) (hs : Sl w a n (intV zs)) : Calls Try.prog 12 #[.slice a n c] w fun e w' => Cloned w w' 2 n (intV zs) e ∧ True := by
  cases a with
  | none => obtain ⟨rfl, rfl⟩ := hz rfl; exact cloneI_nil w _
  | some x => exact cloneI_some x n c zs w hn hs
theorem Sl.below {w w' : World} {a : Option Addr} {n : Nat} {f : Nat → Value} (h : Sl w a n f) (hb : Below w.heap.size w w') : Sl w' a n f := by
  intro hn
  obtain ⟨b, o, rfl, hc⟩ := h hn
  exact ⟨b, o, rfl, fun j hj => (hb.cell (cell_lt (hc j hj))).trans (hc j hj)⟩
theorem rowBelow {w w' : World} {B b : Nat} {t : TypeId} {n : Nat} {f : Nat → Value} (h : w.rowIs b t n f) (hb : Below B w w') (hlt : b < B) : w'.rowIs b t n f := h.of_block (hb.block b hlt)
end Go.Proofs.Qxb6604343a
