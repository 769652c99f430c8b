/-
  CONTRACTS of the small functions on the road of FnSweepMatchesModel: zzBytes, Small, N, TimesIn, CloneS, CloneI.
-/
import Derived.Test.Qxb6603706aTake
import Derived.Deep.OwnRows
import Derived.WalkLawsBesides
namespace Go.Proofs.Qxb6603706a
open Go.RowKit
set_option linter.unusedVariables false

/-- a slice that is read: of n elements, element j holding 'f j' -/
def Sl (w : World) (a : Option Addr) (n : Nat) (f : Nat → Value) : Prop := 0 < n → ∃ b o, a = some ⟨b, o, none⟩ ∧ ∀ j, j < n → w.cell? ⟨b, o + j, none⟩ = some (f j)
def strV (ss : Nat → ByteArray) (j : Nat) : Value := .string (ss j)
def intV (zs : Nat → Int) (j : Nat) : Value := .int .i64 (zs j)

/-- some bool came back -/
def IsBool (e : Ending) : Prop := ∃ b, e = .returned (.bool b)
theorem isBool (b : Bool) : IsBool (.returned (.bool b)) := ⟨b, rfl⟩

theorem n_any (a0 a1 a2 : Option Addr) (l0 l1 l2 c0 c1 c2 : Nat) (w : World) (h0 : l0 ≤ maxLen) (h1 : l1 ≤ maxLen) (h2 : l2 ≤ maxLen) :
    Calls Try.prog 13 #[.slice a0 l0 c0, .slice a1 l1 c1, .slice a2 l2 c2] w fun e w' => ∃ n : Nat, e = .returned (.int .i64 n) ∧ n ≤ l0 ∧ n ≤ l1 ∧ n ≤ l2 ∧ w' = w := by
  unfold maxLen at h0 h1 h2
  go_enter Try.func13, Try.ntmps13
  go_wp2
  all_goals (go_ret; first | exact ⟨l2, rfl, by omega, by omega, by omega, rfl⟩ | exact ⟨l1, rfl, by omega, by omega, by omega, rfl⟩ | exact ⟨l0, rfl, by omega, by omega, by omega, rfl⟩)

theorem bytes_any (a0 a1 a2 : Option Addr) (l0 l1 l2 c0 c1 c2 : Nat) (pk nw idl : Int) (ss : Nat → ByteArray) (w : World) (h0 : l0 ≤ maxLen) (h1 : l1 ≤ maxLen) (h2 : l2 ≤ maxLen) (hs : Sl w a0 l0 (strV ss)) :
    Calls Try.prog 11 #[.slice a0 l0 c0, .slice a1 l1 c1, .slice a2 l2 c2, .int .i64 pk, .int .i64 nw, .int .i64 idl] w fun e w' => IsBool e ∧ w' = w := by
  unfold maxLen at h0 h1 h2
  rcases Nat.eq_zero_or_pos l0 with rfl | hn
  · go_enter Try.func11, Try.ntmps11
    go_wp2
    go_loop [13, 14] (fun z i => (∃ x, z = .int .i64 x) ∧ i = .int .i64 0) (fun _ i => 0)
    case atStart => exact ⟨⟨_, rfl⟩, rfl⟩
    case round =>
      obtain ⟨⟨x, rfl⟩, rfl⟩ := hrel
      go_wp2
      all_goals (go_ret; exact ⟨isBool _, rfl⟩)
  · obtain ⟨b, o, rfl, hc⟩ := hs hn
    unfold strV at hc
    go_enter Try.func11, Try.ntmps11
    go_wp2
    all_goals first | (go_ret; exact ⟨isBool _, rfl⟩) | skip
    go_loop [13, 14] (fun z i => ∃ (x : Int) (k : Nat), z = .int .i64 x ∧ i = .int .i64 k ∧ k ≤ l0) (fun _ i => l0 - (intOf i).toNat)
    case atStart => exact ⟨_, 0, rfl, rfl, by omega⟩
    case round =>
      obtain ⟨x, k, rfl, rfl, hk⟩ := hrel
      by_cases hlt : k < l0
      · have hck := hc k hlt
        go_wp2
        all_goals first | (go_ret; exact ⟨isBool _, rfl⟩) | skip
        go_round
        case rel => exact ⟨_, k + 1, rfl, by go_num, by omega⟩
        case measure => simp [intOf]; omega
      · go_wp2
        all_goals (go_ret; exact ⟨isBool _, rfl⟩)

theorem small_any (a0 a1 a2 : Option Addr) (l0 l1 l2 c0 c1 c2 : Nat) (s : ByteArray) (ss : Nat → ByteArray) (w : World) (h0 : l0 ≤ maxLen) (h1 : l1 ≤ maxLen) (h2 : l2 ≤ maxLen) (hs : Sl w a0 l0 (strV ss)) :
    Calls Try.prog 12 #[.slice a0 l0 c0, .slice a1 l1 c1, .slice a2 l2 c2, .string s] w fun e w' => IsBool e ∧ w' = w := by
  unfold maxLen at h0 h1 h2
  rcases Nat.eq_zero_or_pos l0 with rfl | hn
  · go_enter Try.func12, Try.ntmps12
    go_wp2
    all_goals first | (go_ret; exact ⟨isBool _, rfl⟩) | skip
    all_goals
      go_loop [9, 10] (fun z i => (∃ x, z = .int .i64 x) ∧ i = .int .i64 0) (fun _ i => 0)
      case atStart => exact ⟨⟨_, rfl⟩, rfl⟩
      case round =>
        obtain ⟨⟨x, rfl⟩, rfl⟩ := hrel
        go_wp2
        all_goals (go_ret; exact ⟨isBool _, rfl⟩)
  · obtain ⟨b, o, rfl, hc⟩ := hs hn
    unfold strV at hc
    go_enter Try.func12, Try.ntmps12
    go_wp2
    all_goals first | (go_ret; exact ⟨isBool _, rfl⟩) | skip
    all_goals
      go_loop [9, 10] (fun z i => ∃ (x : Int) (k : Nat), z = .int .i64 x ∧ i = .int .i64 k ∧ k ≤ l0) (fun _ i => l0 - (intOf i).toNat)
      case atStart => exact ⟨_, 0, rfl, rfl, by omega⟩
      case round =>
        obtain ⟨x, k, rfl, rfl, hk⟩ := hrel
        by_cases hlt : k < l0
        · have hck := hc k hlt
          go_wp2
          all_goals first | (go_ret; exact ⟨isBool _, rfl⟩) | skip
          go_round
          case rel => exact ⟨_, k + 1, rfl, by go_num, by omega⟩
          case measure => simp [intOf]; omega
        · go_wp2
          all_goals (go_ret; exact ⟨isBool _, rfl⟩)

/-- a bool came back; if true, the first n of both are in bounds -/
def TimesOk (f l : Nat → Int) (n : Nat) (e : Ending) : Prop := ∃ b, e = .returned (.bool b) ∧ (b = true → ∀ j, j < n → inB (f j) = true ∧ inB (l j) = true)
theorem timesNo (f l : Nat → Int) (n : Nat) : TimesOk f l n (.returned (.bool false)) := ⟨false, rfl, fun h => by cases h⟩
theorem timesYes {f l : Nat → Int} {n : Nat} (h : ∀ j, j < n → inB (f j) = true ∧ inB (l j) = true) : TimesOk f l n (.returned (.bool true)) := ⟨true, rfl, fun _ => h⟩
theorem timesIn_any (a1 a2 : Option Addr) (l1 l2 c1 c2 n : Nat) (f l : Nat → Int) (w : World) (h1 : l1 ≤ maxLen) (h2 : l2 ≤ maxLen) (hn1 : n ≤ l1) (hn2 : n ≤ l2) (hs1 : Sl w a1 l1 (intV f)) (hs2 : Sl w a2 l2 (intV l)) :
    Calls Try.prog 14 #[.slice a1 l1 c1, .slice a2 l2 c2, .int .i64 n] w fun e w' => TimesOk f l n e ∧ w' = w := by
  unfold maxLen at h1 h2
  rcases Nat.eq_zero_or_pos n with rfl | hn
  · go_enter Try.func14, Try.ntmps14
    go_wp2
    go_loop [7] (fun i => i = .int .i64 0) (fun i => 0)
    case atStart => exact rfl
    case round =>
      obtain rfl := hrel
      go_wp2
      go_ret
      exact ⟨timesYes (fun j hj => by omega), rfl⟩
  · obtain ⟨b1, o1, rfl, hc1⟩ := hs1 (by omega)
    obtain ⟨b2, o2, rfl, hc2⟩ := hs2 (by omega)
    unfold intV at hc1 hc2
    go_enter Try.func14, Try.ntmps14
    go_wp2
    go_loop [7] (fun i => ∃ (k : Nat), i = .int .i64 k ∧ k ≤ n ∧ Hid (∀ j, j < k → inB (f j) = true ∧ inB (l j) = true)) (fun i => n - (intOf i).toNat)
    case atStart => exact ⟨0, rfl, by omega, fun j hj => by omega⟩
    case round =>
      obtain ⟨k, rfl, hk, hok⟩ := hrel
      by_cases hlt : k < n
      · have hck := hc1 k (by omega)
        have hcl := hc2 k (by omega)
        clear hc1 hc2
        cases hf : inB (f k)
        · go_wp2_with (go_at_call 8; refine (in_any _ _).mono ?_; rintro e w' ⟨rfl, rfl⟩)
          go_ret
          exact ⟨timesNo _ _ _, rfl⟩
        · cases hl : inB (l k)
          · go_wp2_with (go_at_call 8; refine (in_any _ _).mono ?_; rintro e w' ⟨rfl, rfl⟩)
            go_ret
            exact ⟨timesNo _ _ _, rfl⟩
          · go_wp2_with (go_at_call 8; refine (in_any _ _).mono ?_; rintro e w' ⟨rfl, rfl⟩)
            go_round
            case rel => exact ⟨k + 1, by go_num, by omega, fun j hj => by
              rcases Nat.lt_succ_iff_lt_or_eq.1 hj with h | rfl
              · exact hok.out j h
              · exact ⟨hf, hl⟩⟩
            case measure => simp [intOf]; omega
      · go_wp2
        go_ret
        exact ⟨timesYes (fun j hj => hok.out j (by omega)), rfl⟩

theorem Try.info9 : (Try.prog.info? 9).map (fun i => (i.zero, i.size, i.bytes)) = some (some (.string ByteArray.empty), 1, 16) := by kernel_rfl
theorem Try.info2 : (Try.prog.info? 2).map (fun i => (i.zero, i.size, i.bytes)) = some (some (.int .i64 0), 1, 8) := by kernel_rfl

/-- what a clone gives: a slice of n elements, in a new row -/
def Cloned (w w' : World) (t : TypeId) (n : Nat) (f : Nat → Value) (e : Ending) : Prop :=
  ∃ a c, e = .returned (.slice a n c) ∧ (0 < n → a = some ⟨w.heap.size, 0, none⟩ ∧ w'.rowIs w.heap.size t n f) ∧ Below w.heap.size w w'
theorem cell_lt {w : World} {b o : Nat} {v : Value} (h : w.cell? ⟨b, o, none⟩ = some v) : b < w.heap.size := by
  by_cases hb : b < w.heap.size
  · exact hb
  · have : w.heap[b]? = none := by simp; omega
    simp [World.cell?, this] at h
theorem row_step {w : World} {b : Nat} {t : TypeId} {n k : Nat} {f : Nat → Value} {z : Value} (h : w.rowIs b t n (fun j => if j < k then f j else z)) :
    (w.setCell ⟨b, k, none⟩ (f k)).rowIs b t n (fun j => if j < k + 1 then f j else z) :=
  (h.set k (f k)).congr (fun j _ => by
    show (if j = k then f k else if j < k then f j else z) = if j < k + 1 then f j else z
    by_cases e : j = k
    · subst e; simp
    · by_cases e2 : j < k
      · rw [if_neg e, if_pos e2, if_pos (by omega)]
      · rw [if_neg e, if_neg e2, if_neg (by omega)])
theorem cloneS_nil (w : World) (f : Nat → Value) : Calls Try.prog 15 #[.slice none 0 0] w fun e w' => Cloned w w' 9 0 f e ∧ True := by
  have hnil := fun (wx : World) (l c n' c' : Nat) => Lib.run_eql_slice_nil (P := Try.prog) wx 29 9 none l c n' c' Try.underlying29
  go_enter Try.func15, Try.ntmps15
  go_wp2
  go_ret
  exact ⟨⟨_, _, rfl, fun h => by omega, Below.refl _ _⟩, trivial⟩
theorem cloneS_some (x : Addr) (n c : Nat) (ss : Nat → ByteArray) (w : World) (hn : n ≤ 65536) (hs : Sl w (some x) n (strV ss)) : Calls Try.prog 15 #[.slice (some x) n c] w fun e w' => Cloned w w' 9 n (strV ss) e ∧ True := by
  have hmk := run_make_row' (P := Try.prog) 29 9 (Value.string ByteArray.empty) 16 Try.underlying29 Try.info9 rfl .i64 .i64 n (by omega) (by omega)
  have hnil := fun (wx : World) (l c n' c' : Nat) => Lib.run_eql_slice_nil (P := Try.prog) wx 29 9 (some x) l c n' c' Try.underlying29
  go_enter Try.func15, Try.ntmps15
  go_wp2
  go_loopw [4] (fun i wr => ∃ k : Nat, i = .int .i64 k ∧ k ≤ n ∧ wr.rowIs w.heap.size 9 n (fun j => if j < k then strV ss j else Value.string ByteArray.empty) ∧ Below w.heap.size w wr) (fun i _ => n - (intOf i).toNat)
  case atStart => exact ⟨0, rfl, by omega, (World.rowIs_made _ _ _ _).congr (fun i hi => by simp), (Below.refl _ _).alloc (Nat.le_refl _) _⟩
  case round =>
    obtain ⟨k, rfl, hk, hrow, hbel⟩ := hrel
    by_cases hlt : k < n
    · obtain ⟨b, o, hx, hc⟩ := hs (by omega)
      cases hx
      have hck := hc k hlt
      have hck2 : wr.cell? ⟨b, o + k, none⟩ = some (strV ss k) := (hbel.cell (cell_lt hck)).trans hck
      have hold := hrow.cell hlt
      rw [if_neg (Nat.lt_irrefl k)] at hold
      have hfz := hrow.frozen k
      have HR := row_step hrow
      have HR2 : Hid (World.rowIs (wr.setCell ⟨w.heap.size, k, none⟩ (strV ss k)) w.heap.size 9 n (fun j => if j < k + 1 then strV ss j else Value.string ByteArray.empty)) := HR
      clear hrow HR hc hck hs
      unfold strV at hck2
      go_wp2
      go_roundw
      case rel => exact ⟨k + 1, by go_num, by omega, HR2.out, hbel.setCell (Nat.le_refl _) _⟩
      case measure => simp [intOf]; omega
    · go_wp2
      go_ret
      exact ⟨⟨_, _, rfl, fun h => ⟨rfl, hrow.congr (fun i hi => if_pos (by omega))⟩, hbel⟩, trivial⟩
theorem cloneI_nil (w : World) (f : Nat → Value) : Calls Try.prog 16 #[.slice none 0 0] w fun e w' => Cloned w w' 2 0 f e ∧ True := by
  have hnil := fun (wx : World) (l c n' c' : Nat) => Lib.run_eql_slice_nil (P := Try.prog) wx 30 2 none l c n' c' Try.underlying30
  go_enter Try.func16, Try.ntmps16
  go_wp2
  go_ret
  exact ⟨⟨_, _, rfl, fun h => by omega, Below.refl _ _⟩, trivial⟩
theorem cloneI_some (x : Addr) (n c : Nat) (zs : Nat → Int) (w : World) (hn : n ≤ 65536) (hs : Sl w (some x) n (intV zs)) : Calls Try.prog 16 #[.slice (some x) n c] w fun e w' => Cloned w w' 2 n (intV zs) e ∧ True := by
  have hmk := run_make_row' (P := Try.prog) 30 2 (Value.int .i64 0) 8 Try.underlying30 Try.info2 rfl .i64 .i64 n (by omega) (by omega)
  have hnil := fun (wx : World) (l c n' c' : Nat) => Lib.run_eql_slice_nil (P := Try.prog) wx 30 2 (some x) l c n' c' Try.underlying30
  go_enter Try.func16, Try.ntmps16
  go_wp2
  go_loopw [4] (fun i wr => ∃ k : Nat, i = .int .i64 k ∧ k ≤ n ∧ wr.rowIs w.heap.size 2 n (fun j => if j < k then intV zs j else Value.int .i64 0) ∧ Below w.heap.size w wr) (fun i _ => n - (intOf i).toNat)
  case atStart => exact ⟨0, rfl, by omega, (World.rowIs_made _ _ _ _).congr (fun i hi => by simp), (Below.refl _ _).alloc (Nat.le_refl _) _⟩
  case round =>
    obtain ⟨k, rfl, hk, hrow, hbel⟩ := hrel
    by_cases hlt : k < n
    · obtain ⟨b, o, hx, hc⟩ := hs (by omega)
      cases hx
      have hck := hc k hlt
      have hck2 : wr.cell? ⟨b, o + k, none⟩ = some (intV zs k) := (hbel.cell (cell_lt hck)).trans hck
      have hold := hrow.cell hlt
      rw [if_neg (Nat.lt_irrefl k)] at hold
      have hfz := hrow.frozen k
      have HR := row_step hrow
      have HR2 : Hid (World.rowIs (wr.setCell ⟨w.heap.size, k, none⟩ (intV zs k)) w.heap.size 2 n (fun j => if j < k + 1 then intV zs j else Value.int .i64 0)) := HR
      clear hrow HR hc hck hs
      unfold intV at hck2
      go_wp2
      go_roundw
      case rel => exact ⟨k + 1, by go_num, by omega, HR2.out, hbel.setCell (Nat.le_refl _) _⟩
      case measure => simp [intOf]; omega
    · go_wp2
      go_ret
      exact ⟨⟨_, _, rfl, fun h => ⟨rfl, hrow.congr (fun i hi => if_pos (by omega))⟩, hbel⟩, trivial⟩
end Go.Proofs.Qxb6603706a
