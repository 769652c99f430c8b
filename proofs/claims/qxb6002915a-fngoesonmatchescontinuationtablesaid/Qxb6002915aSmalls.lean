/-
  CONTRACTS of the small functions on the road of FnGoesOnMatchesContinuationTable: at, spaceOrTab, zgAt, zgNext, zgColumns, zzBytes, zzClone.
-/
import Derived.Test.Qxb6002915aPlain
import Derived.WalkKit
import Derived.ProofKit
import Derived.Below
import Derived.Deep.QuietTactic
import Derived.BigQuiet
import Derived.Deep.RegionWith
import Derived.Deep.RegionHeld3
import Derived.RegionTactic
import Derived.BigRegion
import Derived.Deep.OwnRows
namespace Go.Proofs.Qxb6002915a
open Go.RowKit
set_option linter.unusedVariables false

theorem cell_lt {w : World} {b o : Nat} {v : Value} (h : w.cell? ⟨b, o, none⟩ = some v) : b < w.heap.size := by
  by_cases hb : b < w.heap.size
  · exact hb
  · have : w.heap[b]? = none := by simp; omega
    simp [World.cell?, this] at h
theorem cell_turn {w w' : World} {r b o : Nat} {v : Value} (hg : w.grownBy w' (some r)) (h : w.cell? ⟨b, o, none⟩ = some v) (hne : b ≠ r) : w'.cell? ⟨b, o, none⟩ = some v :=
  (World.cell?_of_block (w := w) (hg.block b (cell_lt h) (fun e => hne (Option.some.inj e)))).trans h

/-- the line: n bytes at the head of the block lb -/
def Line (w : World) (lb : Nat) (a : Option Addr) (n : Nat) (f : Nat → Int) : Prop := 0 < n → a = some ⟨lb, 0, none⟩ ∧ ∀ j, j < n → w.cell? ⟨lb, j, none⟩ = some (.int .u8 (f j))
theorem Line.block {w w' : World} {lb : Nat} {a : Option Addr} {n : Nat} {f : Nat → Int} (h : Line w lb a n f) (e : 0 < n → w'.heap[lb]? = w.heap[lb]?) : Line w' lb a n f := by
  intro hn
  obtain ⟨ha, hc⟩ := h hn
  exact ⟨ha, fun j hj => (World.cell?_of_block (w := w) (e hn)).trans (hc j hj)⟩
theorem Line.turn {w w' : World} {lb r : Nat} {a : Option Addr} {n : Nat} {f : Nat → Int} (h : Line w lb a n f) (hg : w.grownBy w' (some r)) (hne : lb ≠ r) : Line w' lb a n f := by
  intro hn
  obtain ⟨ha, hc⟩ := h hn
  exact ⟨ha, fun j hj => cell_turn hg (hc j hj) hne⟩

/-- what of the cursor nobody writes -/
structure Core (w : World) (cb tb lb : Nat) (a : Option Addr) (n cp : Nat) (f : Nat → Int) (nb : Bool) : Prop where
  c0 : w.cell? ⟨cb, 0, none⟩ = some (.slice a n cp)
  c1 : w.cell? ⟨cb, 1, none⟩ = some (.pointer (some ⟨tb, 0, none⟩))
  ct : w.cell? ⟨tb, 6, none⟩ = some (.bool nb)
  ln : Line w lb a n f
  nt : tb ≠ cb
  nl : lb ≠ cb
  le : n ≤ 1048576

theorem atF_in {f : Nat → Int} {n : Nat} {nb : Bool} {i : Nat} (h : i < n) : atF f n nb i = f i := if_pos h
theorem atF_ff {f : Nat → Int} {n : Nat} {i : Nat} (h : ¬ i < n) : atF f n true i = 255 := by unfold atF; rw [if_neg h]; rfl
theorem atF_00 {f : Nat → Int} {n : Nat} {i : Nat} (h : ¬ i < n) : atF f n false i = 0 := by unfold atF; rw [if_neg h]; rfl

set_option maxRecDepth 100000 in
theorem at_any (cb tb lb : Nat) (a : Option Addr) (n cp : Nat) (f : Nat → Int) (nb : Bool) (i : Nat) (w : World) (hC : Core w cb tb lb a n cp f nb) :
    Calls Try.prog 21 #[.pointer (some ⟨cb, 0, none⟩), .int .i64 (i : Int)] w fun e w' => e = .returned (.int .u8 (atF f n nb i)) ∧ w' = w := by
  have c0 := hC.c0
  have c1 := hC.c1
  have ct := hC.ct
  have le := hC.le
  by_cases h : i < n
  · obtain ⟨rfl, hc⟩ := hC.ln (by omega)
    have hci := hc i h
    have hi : (i : Int) < (n : Int) := by omega
    rw [atF_in h]
    clear hc hC
    go_enter Try.func21, Try.ntmps21
    go_wp2
    go_ret
    exact ⟨rfl, rfl⟩
  · have hi : ¬ (i : Int) < (n : Int) := by omega
    clear hC
    cases nb
    · rw [atF_00 h]
      go_enter Try.func21, Try.ntmps21
      go_wp2
      go_ret
      exact ⟨rfl, rfl⟩
    · rw [atF_ff h]
      go_enter Try.func21, Try.ntmps21
      go_wp2
      go_ret
      exact ⟨rfl, rfl⟩

theorem space_any (b : Int) (w : World) : Calls Try.prog 23 #[.int .u8 b] w fun e w' => e = .returned (.bool (b == 32 || b == 9)) ∧ w' = w := by
  by_cases h : b = 32
  · subst h
    go_enter Try.func23, Try.ntmps23
    go_wp2
    go_ret
    exact ⟨rfl, rfl⟩
  · go_enter Try.func23, Try.ntmps23
    go_wp2
    go_ret
    exact ⟨rfl, rfl⟩

set_option maxRecDepth 100000 in
theorem zgAt_any (lb : Nat) (a : Option Addr) (n cp : Nat) (f : Nat → Int) (nb : Bool) (i : Nat) (w : World) (hl : Line w lb a n f) (le : n ≤ 1048576) :
    Calls Try.prog 15 #[.slice a n cp, .bool nb, .int .i64 (i : Int)] w fun e w' => e = .returned (.int .u8 (atF f n nb i)) ∧ w' = w := by
  by_cases h : i < n
  · obtain ⟨rfl, hc⟩ := hl (by omega)
    have hci := hc i h
    have hi : (i : Int) < (n : Int) := by omega
    rw [atF_in h]
    clear hc hl
    go_enter Try.func15, Try.ntmps15
    go_wp2
    go_ret
    exact ⟨rfl, rfl⟩
  · have hi : ¬ (i : Int) < (n : Int) := by omega
    clear hl
    cases nb
    · rw [atF_00 h]
      go_enter Try.func15, Try.ntmps15
      go_wp2
      go_ret
      exact ⟨rfl, rfl⟩
    · rw [atF_ff h]
      go_enter Try.func15, Try.ntmps15
      go_wp2
      go_ret
      exact ⟨rfl, rfl⟩
theorem ret_int {k : IntKind} {x y : Int} (h : x = y) : Ending.returned (.int k x) = .returned (.int k y) := by rw [h]
theorem ret_ii {k l : IntKind} {a b a' b' : Int} (h : a = a') (h2 : b = b') : Ending.returned (.tuple #[.int k a, .int l b]) = .returned (.tuple #[.int k a', .int l b']) := by rw [h, h2]
theorem zgNext_any (c : Nat) (b : Int) (w : World) (hc : c ≤ 1099511627776) : Calls Try.prog 16 #[.int .i64 (c : Int), .int .u8 b] w fun e w' => e = .returned (.int .i64 (nxt c b : Int)) ∧ w' = w := by
  by_cases h : b = 9
  · subst h
    go_enter Try.func16, Try.ntmps16
    go_wp2
    go_ret
    exact ⟨ret_int (by unfold nxt; rw [if_pos rfl]; omega), rfl⟩
  · rw [nxt_other c h]
    go_enter Try.func16, Try.ntmps16
    go_wp2
    go_ret
    exact ⟨ret_int (by omega), rfl⟩

/-- zgColumns -/
theorem cols_step (f : Nat → Int) (t n q d : Nat) (h : q < n) : cols f t (n - q) q d = if t < nxt d (f q) then (q, t) else cols f t (n - (q + 1)) (q + 1) (nxt d (f q)) := by
  obtain ⟨m, hm⟩ : ∃ m, n - q = m + 1 := ⟨n - q - 1, by omega⟩
  rw [hm, show n - (q + 1) = m by omega]; rfl
theorem colsK_no {f : Nat → Int} {n p c : Nat} {k : Int} (h : k ≤ 0 ∨ n ≤ p) : colsK f n p c k = (p, c) := by
  unfold colsK
  split
  · rfl
  · rw [show n - p = 0 by omega]; rfl
set_option maxRecDepth 100000 in
set_option maxHeartbeats 1000000 in
theorem zgColumns_any (lb : Nat) (a : Option Addr) (n cp p c : Nat) (f : Nat → Int) (k : Int) (w : World) (hl : Line w lb a n f) (le : n ≤ 1048576) (hc : c ≤ 4294967296) (hk : k ≤ 4294967296) :
    Calls Try.prog 17 #[.slice a n cp, .int .i64 (p : Int), .int .i64 (c : Int), .int .i64 k] w fun e w' => e = .returned (.tuple #[.int .i64 ((colsK f n p c k).1 : Int), .int .i64 ((colsK f n p c k).2 : Int)]) ∧ w' = w := by
  by_cases hk0 : k ≤ 0
  · rw [colsK_no (.inl hk0)]
    go_enter Try.func17, Try.ntmps17
    go_wp2
    go_ret2
    exact ⟨rfl, rfl⟩
  · by_cases hp : n ≤ p
    · rw [colsK_no (.inr hp)]
      have i1 : (n : Int) ≤ (p : Int) := by omega
      go_enter Try.func17, Try.ntmps17
      go_wp2
      go_ret2
      exact ⟨rfl, rfl⟩
    · obtain ⟨rfl, hcl⟩ := hl (by omega)
      clear hl
      have i1 : ¬ (n : Int) ≤ (p : Int) := by omega
      obtain ⟨m, rfl⟩ : ∃ m : Nat, k = (m : Int) := ⟨k.toNat, by omega⟩
      obtain ⟨R, hR⟩ : ∃ R, cols f (c + m) (n - p) p c = R := ⟨_, rfl⟩
      have e : colsK f n p c (m : Int) = R := by unfold colsK; rw [if_neg hk0]; exact hR
      rw [e]
      have HR : Hid (cols f (c + m) (n - p) p c = R) := hR
      clear e hR
      go_enter Try.func17, Try.ntmps17
      go_wp2
      go_loop [11, 12] (fun qv dv => ∃ (q d : Nat), qv = .int .i64 (q : Int) ∧ dv = .int .i64 (d : Int) ∧ q ≤ n ∧ d ≤ c + m ∧ Hid (cols f (c + m) (n - q) q d = R)) (fun qv _ => n - (intOf qv).toNat)
      case atStart => exact ⟨p, c, rfl, rfl, by omega, by omega, HR⟩
      case round =>
        obtain ⟨q, d, rfl, rfl, hq, hd, HQ⟩ := hrel
        by_cases hlt : q < n
        · have hcq := hcl q hlt
          have i2 : (q : Int) < (n : Int) := by omega
          have hs := cols_step f (c + m) n q d hlt
          rw [HQ.out] at hs
          have hn := nxt_gt d (f q)
          have C := (show Hid (Calls Try.prog 16 #[.int .i64 (d : Int), .int .u8 (f q)] w fun e w' => e = .returned (.int .i64 (nxt d (f q) : Int)) ∧ w' = w) from zgNext_any d (f q) w (by omega))
          have HS : Hid (R = if c + m < nxt d (f q) then (q, c + m) else cols f (c + m) (n - (q + 1)) (q + 1) (nxt d (f q))) := hs
          clear hs HQ HR
          generalize nxt d (f q) = e at C HS hn
          by_cases hgt : c + m < e
          · have hR := HS.out
            rw [if_pos hgt] at hR
            subst hR
            clear HS
            have i3 : (c : Int) + (m : Int) < (e : Int) := by omega
            go_wp2_with fail
            refine C.out.mono ?_
            rintro x w' ⟨rfl, rfl⟩
            go_wp2_with fail
            go_ret2
            exact ⟨ret_ii rfl (by simp), rfl⟩
          · have hR := HS.out
            rw [if_neg hgt] at hR
            have HR2 : Hid (cols f (c + m) (n - (q + 1)) (q + 1) e = R) := hR.symm
            clear HS hR
            have i3 : ¬ (c : Int) + (m : Int) < (e : Int) := by omega
            go_wp2_with fail
            refine C.out.mono ?_
            rintro x w' ⟨rfl, hw⟩
            obtain rfl : w = w' := hw.symm
            go_wp2_with fail
            go_round
            case rel => exact ⟨q + 1, e, by go_num, rfl, by omega, by omega, HR2⟩
            case measure => simp [intOf]; omega
        · have hR := HQ.out
          rw [show n - q = 0 by omega] at hR
          obtain rfl : R = (q, d) := hR.symm
          clear HQ HR hR
          have i2 : ¬ (q : Int) < (n : Int) := by omega
          go_wp2_with fail
          go_ret2
          exact ⟨rfl, rfl⟩
end Go.Proofs.Qxb6002915a
