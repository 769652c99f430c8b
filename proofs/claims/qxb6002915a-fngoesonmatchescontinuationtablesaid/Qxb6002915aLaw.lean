/-
  THE LAW's OWN WALK: zzBytes, the clone, FnGoesOnMatchesContinuationTable.
-/
import Derived.Test.Qxb6002915aModel
import Derived.WalkLawsBesides
namespace Go.Proofs.Qxb6002915a
open Go.RowKit
set_option linter.unusedVariables false

/-- zzBytes -/
theorem zzBytes_any (a : Option Addr) (n cp : Nat) (v1 v2 v3 v4 v5 v6 v7 v8 v9 v10 v11 : Value) (w : World) (h : n ≤ maxLen) :
    Calls Try.prog 6 #[.slice a n cp, v1, v2, v3, v4, v5, v6, v7, v8, v9, v10, v11] w fun e w' => e = .returned (.bool (decide (n ≤ 1048576))) ∧ w' = w := by
  unfold maxLen at h
  by_cases hn : n ≤ 1048576
  · have e : decide (n ≤ 1048576) = true := by simp [hn]
    rw [e]
    have i1 : (n : Int) ≤ 1048576 := by omega
    go_enter Try.func6, Try.ntmps6
    go_wp2
    go_ret
    exact ⟨rfl, rfl⟩
  · have e : decide (n ≤ 1048576) = false := by simp [hn]
    rw [e]
    have i1 : ¬ (n : Int) ≤ 1048576 := by omega
    go_enter Try.func6, Try.ntmps6
    go_wp2
    go_ret
    exact ⟨rfl, rfl⟩

theorem Try.info5 : (Try.prog.info? 5).map (fun i => (i.zero, i.size, i.bytes)) = some (some (.int .u8 0), 1, 1) := by kernel_rfl
def byteV (f : Nat → Int) (j : Nat) : Value := .int .u8 (f j)
/-- a clone: n bytes, in a new row -/
def Cloned (w w' : World) (n : Nat) (f : Nat → Int) (e : Ending) : Prop :=
  ∃ a c, e = .returned (.slice a n c) ∧ Line w' w.heap.size a n f ∧ Below w.heap.size w w'
theorem row_step1 {w : World} {b : Nat} {t : TypeId} {n k : Nat} {f : Nat → Value} {z : Value} (h : w.rowIs b t n (fun j => if j < k then f j else z)) :
    (w.setCell ⟨b, k, none⟩ (f k)).rowIs b t n (fun j => if j < k + 1 then f j else z) :=
  (h.set k (f k)).congr (fun j _ => by
    show (if j = k then f k else if j < k then f j else z) = if j < k + 1 then f j else z
    by_cases e : j = k
    · subst e; simp
    · by_cases e2 : j < k
      · rw [if_neg e, if_pos e2, if_pos (by omega)]
      · rw [if_neg e, if_neg e2, if_neg (by omega)])
theorem clone_nil (w : World) (f : Nat → Int) : Calls Try.prog 7 #[.slice none 0 0] w fun e w' => Cloned w w' 0 f e ∧ True := by
  have hnil := fun (wx : World) (l c n' c' : Nat) => Lib.run_eql_slice_nil (P := Try.prog) wx 22 5 none l c n' c' Try.underlying22
  go_enter Try.func7, Try.ntmps7
  go_wp2
  go_ret
  exact ⟨⟨_, _, rfl, fun h => absurd h (Nat.lt_irrefl 0), Below.refl _ _⟩, trivial⟩
/-- a slice that is read: of n elements, element j holding 'f j' -/
def Sl (w : World) (a : Option Addr) (n : Nat) (f : Nat → Value) : Prop := 0 < n → ∃ b o, a = some ⟨b, o, none⟩ ∧ ∀ j, j < n → w.cell? ⟨b, o + j, none⟩ = some (f j)
theorem clone_some (x : Addr) (n c : Nat) (f : Nat → Int) (w : World) (hn : n ≤ 1048576) (hs : Sl w (some x) n (byteV f)) : Calls Try.prog 7 #[.slice (some x) n c] w fun e w' => Cloned w w' n f e ∧ True := by
  have hmk := run_make_row' (P := Try.prog) 22 5 (Value.int .u8 0) 1 Try.underlying22 Try.info5 rfl .i64 .i64 n (by omega) (by omega)
  have hnil := fun (wx : World) (l c n' c' : Nat) => Lib.run_eql_slice_nil (P := Try.prog) wx 22 5 (some x) l c n' c' Try.underlying22
  go_enter Try.func7, Try.ntmps7
  go_wp2
  go_loopw [4] (fun i wr => ∃ k : Nat, i = .int .i64 k ∧ k ≤ n ∧ wr.rowIs w.heap.size 5 n (fun j => if j < k then byteV f j else Value.int .u8 0) ∧ Below w.heap.size w wr) (fun i _ => n - (intOf i).toNat)
  case atStart => exact ⟨0, rfl, by omega, (World.rowIs_made _ _ _ _).congr (fun i hi => by simp), (Below.refl _ _).alloc (Nat.le_refl _) _⟩
  case round =>
    obtain ⟨k, rfl, hk, hrow, hbel⟩ := hrel
    by_cases hlt : k < n
    · obtain ⟨b, o, hx, hc⟩ := hs (by omega)
      cases hx
      have hck := hc k hlt
      have hck2 : wr.cell? ⟨b, o + k, none⟩ = some (byteV f k) := (hbel.cell (cell_lt hck)).trans hck
      have hold := hrow.cell hlt
      rw [if_neg (Nat.lt_irrefl k)] at hold
      have hfz := hrow.frozen k
      have HR2 : Hid (World.rowIs (wr.setCell ⟨w.heap.size, k, none⟩ (byteV f k)) w.heap.size 5 n (fun j => if j < k + 1 then byteV f j else Value.int .u8 0)) := row_step1 hrow
      clear hrow hc hck hs
      unfold byteV at hck2
      go_wp2
      go_roundw
      case rel => exact ⟨k + 1, by go_num, by omega, HR2.out, hbel.setCell (Nat.le_refl _) _⟩
      case measure => simp [intOf]; omega
    · go_wp2
      go_ret
      refine ⟨⟨_, _, rfl, fun h => ⟨rfl, fun j hj => ?_⟩, hbel⟩, trivial⟩
      have := hrow.cell hj
      rw [if_pos (by omega)] at this
      exact this
theorem clone_any (a : Option Addr) (n c : Nat) (f : Nat → Int) (w : World) (hz : a = none → n = 0 ∧ c = 0) (hn : n ≤ 1048576) (hs : Sl w a n (byteV f)) : Calls Try.prog 7 #[.slice a n c] w fun e w' => Cloned w w' n f e ∧ True := by
  cases a with
  | none => obtain ⟨rfl, rfl⟩ := hz rfl; exact clone_nil w f
  | some x => exact clone_some x n c f w hn hs

set_option maxRecDepth 100000 in
set_option maxHeartbeats 4000000 in
theorem law_any (a0 : Option Addr) (n cp : Nat) (f : Nat → Int) (a1 : Bool) (a2 a3 a4 a5 a6 : Int) (a7 : Bool) (a8 a9 : Int) (a10 : Bool) (a11 : Int) (w : World) (hz : a0 = none → n = 0 ∧ cp = 0) (hn : n ≤ maxLen) (hsl : Sl w a0 n (byteV f)) (w2 : (Lit.int .i64 a2).wf = true) :
    Calls Try.prog 3 #[.slice a0 n cp, .bool a1, .int .i64 a2, .int .i64 a3, .int .i64 a4, .int .i64 a5, .int .i64 a6, .bool a7, .int .u8 a8, .int .i64 a9, .bool a10, .int .i64 a11] w fun e w' => e = .returned (.bool true) ∧ Below w.heap.size w w' := by
  have Z := (show Hid (Calls Try.prog 6 #[.slice a0 n cp, .bool a1, .int .i64 a2, .int .i64 a3, .int .i64 a4, .int .i64 a5, .int .i64 a6, .bool a7, .int .u8 a8, .int .i64 a9, .bool a10, .int .i64 a11] w fun e w' => e = .returned (.bool (decide (n ≤ 1048576))) ∧ w' = w) from zzBytes_any a0 n cp _ _ _ _ _ _ _ _ _ _ _ w hn)
  by_cases hle : n ≤ 1048576
  · have e : decide (n ≤ 1048576) = true := by simp [hle]
    rw [e] at Z
    have i1 : (n : Int) ≤ 1048576 := by omega
    by_cases hr : a2 < 0 ∨ a3 < 0 ∨ 1073741824 < a3
    · go_enter Try.func3, Try.ntmps3
      go_wp2_with fail
      refine Z.out.mono ?_
      rintro e w2 ⟨rfl, hw⟩
      obtain rfl : w = w2 := hw.symm
      go_wp2_with fail
      all_goals first | (go_ret; exact ⟨rfl, Below.refl _ _⟩) | (exfalso; omega)
    · have p0 : ¬ a2 < 0 := fun h => hr (.inl h)
      have p1 : ¬ a3 < 0 := fun h => hr (.inr (.inl h))
      have p2 : ¬ 1073741824 < a3 := fun h => hr (.inr (.inr h))
      have p3 : a2 ≤ 9223372036854775807 := by simp [Lit.wf] at w2; omega
      obtain ⟨p, rfl⟩ : ∃ p : Nat, a2 = (p : Int) := ⟨a2.toNat, by omega⟩
      obtain ⟨c, rfl⟩ : ∃ c : Nat, a3 = (c : Int) := ⟨a3.toNat, by omega⟩
      obtain ⟨F, C, hs⟩ : ∃ F C, scan f (n - p) p c = (F, C) := ⟨_, _, rfl⟩
      have HS : Hid (scan f (n - p) p c = (F, C)) := hs
      have CL := (show Hid (Calls Try.prog 7 #[.slice a0 n cp] w fun e w' => Cloned w w' n f e ∧ True) from clone_any a0 n cp f w hz hle hsl)
      clear hs hr hz hn hsl w2 e
      go_enter Try.func3, Try.ntmps3
      go_wp2_with fail
      refine Z.out.mono ?_
      rintro e w2 ⟨rfl, hw⟩
      obtain rfl : w = w2 := hw.symm
      go_wp2_with fail
      refine CL.out.mono ?_
      rintro e w1 ⟨⟨a, cp1, rfl, hl, hb⟩, -⟩
      have HL : Hid (Line w1 w.heap.size a n f) := hl
      have HB : Hid (Below w.heap.size w w1) := hb
      clear hl hb
      go_wp2_with fail
      refine (shim_any w.heap.size a n cp1 f a1 p c F C a4 a5 a6 a7 a8 a9 a10 a11 w1 HL.out HB.out.size hle HS.out (by omega) (by omega)).mono ?_
      rintro e w2 ⟨rfl, hb2⟩
      have HL2 : Hid (Line w2 w.heap.size a n f) := (HL.out.block (w' := w2) (fun h => hb2.block _ (line_lt HL.out h)))
      have hb3 : Below w.heap.size w w2 := HB.out.trans (hb2.mono HB.out.size)
      have HB3 : Hid (Below w.heap.size w w2) := hb3
      clear hb2 hb3 HL HB
      unfold ansV
      go_wp2_with fail
      have M := model_any w.heap.size a n cp1 f a1 p c F C a8 a9 a10 a11 w2 HL2.out hle HS.out (by omega) (by omega)
      unfold ansV at M
      refine M.mono ?_
      rintro e w3 ⟨rfl, hw⟩
      obtain rfl : w2 = w3 := hw.symm
      clear M HL2 HS
      obtain ⟨ok, p', c'⟩ := goes f n a1 p c F C a8 a9 a10 a11
      generalize (atF f n a1 F == 0) = bl
      go_wp2_with fail
      go_ret
      exact ⟨by simp, HB3.out⟩
  · have e : decide (n ≤ 1048576) = false := by simp [hle]
    rw [e] at Z
    clear hz hn hsl
    go_enter Try.func3, Try.ntmps3
    go_wp2_with fail
    refine Z.out.mono ?_
    rintro e w2 ⟨rfl, hw⟩
    obtain rfl : w = w2 := hw.symm
    go_wp2_with fail
    go_ret
    exact ⟨rfl, Below.refl _ _⟩
end Go.Proofs.Qxb6002915a
