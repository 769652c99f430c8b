/-
  THE CONTRACT of ZZreadDecision.
-/
import Derived.Test.Qxb6604343aDecide
namespace Go.Proofs.Qxb6604343a
open Go.RowKit
open Wire
set_option linter.unusedVariables false

set_option maxRecDepth 100000 in
set_option maxHeartbeats 4000000 in
theorem zzread_any (bb L c n : Nat) (id : ByteArray) (nm : Nat → ByteArray) (g r : Nat → Nat) (T : List Nat) (w : World) (hB : Body w bb L T) (hT : T = fld id ++ (uv n ++ restF nm g r 0 n)) (hg : ∀ j, j < n → g j < 9223372036854775808) (hr : ∀ j, j < n → r j < 9223372036854775808)
    (hc : L ≤ c) (hc2 : c ≤ maxLen) (hn : n ≤ 1000000) :
    Calls Try.prog 15 #[.slice (some ⟨bb, 0, none⟩) L c] w fun e w' => ∃ pb, e = .returned (.tuple #[.bool true, .string id, .slice (some ⟨pb, 0, none⟩) n n, .bool (decide (n ≠ 0))]) ∧ w'.rowIs pb 40 (n * 3) (PK nm g r) ∧ Below w.heap.size w w' := by
  have hmk := run_make3 36 40 (.agg #[.string ByteArray.empty, .int .i64 0, .int .i64 0]) Try.underlying36 Try.info40 n (by omega)
  go_enter Try.func15, Try.ntmps15
  go_wp2_with fail
  refine (readDecision_any bb L c n id nm g r T w hB hT hg hr hc hc2).mono ?_
  rintro e w1 ⟨db, ob, rfl, d0, d1, hO, hb1⟩
  clear hB hT hg hr hc hc2
  have l1 : db < w1.heap.size := cell_lt d1
  have l2 : ob < w1.heap.size := hO.lt
  have d1' : ∀ o, (w1.alloc o).cell? ⟨db, 1, none⟩ = some (.slice (some ⟨ob, 0, none⟩) n n) := fun o => (World.cell?_of_block (w := w1) (Below.heap_alloc _ _ _ l1)).trans d1
  go_wp2_with fail
  obtain ⟨f0, hP⟩ := row_made w1 #[.string ByteArray.empty, .int .i64 0, .int .i64 0] (n * 3) 40
  have D0 : (w1.alloc (.cells (madeCells #[.string ByteArray.empty, .int .i64 0, .int .i64 0] (n * 3)) 40)).cell? ⟨db, 0, none⟩ = some (.string id) := (World.cell?_of_block (w := w1) (Below.heap_alloc _ _ _ l1)).trans d0
  have D1 := d1' (.cells (madeCells #[.string ByteArray.empty, .int .i64 0, .int .i64 0] (n * 3)) 40)
  have hO2 := hO.alloc (.cells (madeCells #[.string ByteArray.empty, .int .i64 0, .int .i64 0] (n * 3)) 40)
  have hb2 : Below w.heap.size w (w1.alloc (.cells (madeCells #[.string ByteArray.empty, .int .i64 0, .int .i64 0] (n * 3)) 40)) := hb1.alloc hb1.size _
  have q0 : w.heap.size ≤ w1.heap.size := hb1.size
  generalize w1.alloc (.cells (madeCells #[.string ByteArray.empty, .int .i64 0, .int .i64 0] (n * 3)) 40) = w2 at hP D0 D1 hO2 hb2 ⊢
  clear d0 d1 d1' hO hb1 hmk
  generalize w1.heap.size = pb at hP l1 l2 q0 ⊢
  go_loopw [27] (fun i wr => ∃ k : Nat, i = .int .i64 (k : Int) ∧ k ≤ n ∧ wr.rowIs pb 40 (n * 3) (fun j => if j < 3 * k then PK nm g r j else f0 j) ∧ wr.cell? ⟨db, 0, none⟩ = some (.string id) ∧ wr.cell? ⟨db, 1, none⟩ = some (.slice (some ⟨ob, 0, none⟩) n n) ∧ wr.rowIs ob 61 (n * 3) (PK nm g r) ∧ Below w.heap.size w wr) (fun i _ => n - (intOf i).toNat)
  case atStart => exact ⟨0, rfl, Nat.zero_le _, hP.congr (fun i hi => by simp), D0, D1, hO2, hb2⟩
  case round =>
    clear hP D0 D1 hO2 hb2
    obtain ⟨k, rfl, hk, hP, D0, D1, hO, hb⟩ := hrel
    by_cases hlt : k < n
    · have e3 : k * 3 = 3 * k := Nat.mul_comm _ _
      have o0 := hO.cell (show k * 3 < n * 3 by omega)
      have o1 := hO.cell (show k * 3 + 1 < n * 3 by omega)
      have o2 := hO.cell (show k * 3 + 2 < n * 3 by omega)
      rw [e3, PK0] at o0
      rw [e3, PK1] at o1
      rw [e3, PK2] at o2
      rw [← e3] at o0 o1 o2
      obtain ⟨y0, x0⟩ := row_some hP (show k * 3 < n * 3 by omega)
      obtain ⟨y1, x1⟩ := row_some hP (show k * 3 + 1 < n * 3 by omega)
      obtain ⟨y2, x2⟩ := row_some hP (show k * 3 + 2 < n * 3 by omega)
      have z0 := hP.frozen (k * 3)
      have z1 := hP.frozen (k * 3 + 1)
      have z2 := hP.frozen (k * 3 + 2)
      have HE : Hid (k * 3 = 3 * k) := e3
      clear e3
      have i1 : (k : Int) < (n : Int) := by omega
      have s0 := fun u v x => set3_other (u := u) (v := v) (x := x) (i := k * 3) (j := k * 3 + 1) (l := k * 3 + 2) o0 (show ob ≠ pb by omega)
      have s1 := fun u v x => set3_other (u := u) (v := v) (x := x) (i := k * 3) (j := k * 3 + 1) (l := k * 3 + 2) o1 (show ob ≠ pb by omega)
      have s2 := fun u v x => set3_other (u := u) (v := v) (x := x) (i := k * 3) (j := k * 3 + 1) (l := k * 3 + 2) o2 (show ob ≠ pb by omega)
      have s3 := fun u v x => set3_other (u := u) (v := v) (x := x) (i := k * 3) (j := k * 3 + 1) (l := k * 3 + 2) D1 (show db ≠ pb by omega)
      go_wp2_with fail
      go_region_held3 (fun w' => w'.cell? ⟨db, 1, none⟩ = some (.slice (some ⟨ob, 0, none⟩) n n) ∧ w'.cell? ⟨ob, k * 3, none⟩ = some (.string (nm k)) ∧ w'.cell? ⟨ob, k * 3 + 1, none⟩ = some (.int .i64 (g k : Int)) ∧ w'.cell? ⟨ob, k * 3 + 2, none⟩ = some (.int .i64 (r k : Int))) (first | exact ⟨D1, o0, o1, o2⟩ | exact ⟨s3 _ _ _, s0 _ _ _, s1 _ _ _, s2 _ _ _⟩) (fail)
      have hP8 := row3_step hP
      have D08 := set3_other (i := 3 * k) (j := 3 * k + 1) (l := 3 * k + 2) (u := .string (nm k)) (v := .int .i64 (g k : Int)) (x := .int .i64 (r k : Int)) D0 (show db ≠ pb by omega)
      have D18 := set3_other (i := 3 * k) (j := 3 * k + 1) (l := 3 * k + 2) (u := .string (nm k)) (v := .int .i64 (g k : Int)) (x := .int .i64 (r k : Int)) D1 (show db ≠ pb by omega)
      have hk8 : ∀ i, i ≠ pb → (((wr.setCell ⟨pb, 3 * k, none⟩ (.string (nm k))).setCell ⟨pb, 3 * k + 1, none⟩ (.int .i64 (g k : Int))).setCell ⟨pb, 3 * k + 2, none⟩ (.int .i64 (r k : Int))).heap[i]? = wr.heap[i]? := fun i hi => ((Below.heap_setCell _ _ _ i hi).trans (Below.heap_setCell _ _ _ i hi)).trans (Below.heap_setCell _ _ _ i hi)
      have hO8 := hO.of_block (hk8 ob (by omega))
      have b8 : Below w.heap.size w (((wr.setCell ⟨pb, 3 * k, none⟩ (.string (nm k))).setCell ⟨pb, 3 * k + 1, none⟩ (.int .i64 (g k : Int))).setCell ⟨pb, 3 * k + 2, none⟩ (.int .i64 (r k : Int))) := ((hb.setCell q0 _).setCell q0 _).setCell q0 _
      rw [HE.out]
      generalize ((wr.setCell ⟨pb, 3 * k, none⟩ (.string (nm k))).setCell ⟨pb, 3 * k + 1, none⟩ (.int .i64 (g k : Int))).setCell ⟨pb, 3 * k + 2, none⟩ (.int .i64 (r k : Int)) = w8 at hP8 D08 D18 hO8 b8 ⊢
      clear hk8 s0 s1 s2 s3 x0 x1 x2 z0 z1 z2 o0 o1 o2 D0 D1 hP hO hb
      go_wp2
      go_roundw
      case rel => exact ⟨k + 1, by go_num, by omega, hP8, D08, D18, hO8, b8.drew⟩
      case measure => simp [intOf]; omega
    · obtain rfl : n = k := by omega
      go_wp2_with fail
      go_quiet (fail)
      go_wp2
      refine bodyPost_ret (v := .tuple #[.bool true, .string id, .slice (some ⟨pb, 0, none⟩) n n, .bool (decide (n ≠ 0))]) (by simp [results, Try.results15, go_sem]) rfl ⟨pb, rfl, hP.congr (fun i hi => if_pos (by omega)), below_drewN hb _⟩
end Go.Proofs.Qxb6604343a
