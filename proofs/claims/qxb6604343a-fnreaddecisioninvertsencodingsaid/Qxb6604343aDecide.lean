/-
  THE CONTRACT of readDecision.
-/
import Derived.Test.Qxb6604343aRead
namespace Go.Proofs.Qxb6604343a
open Go.RowKit
open Wire
set_option linter.unusedVariables false

theorem Try.info61 : (Try.prog.info? 61).map (fun i => (i.zero, i.size, i.bytes)) = some (some (.agg #[.string ByteArray.empty, .int .i64 0, .int .i64 0]), 3, 32) := by kernel_rfl
theorem Try.info40 : (Try.prog.info? 40).map (fun i => (i.zero, i.size, i.bytes)) = some (some (.agg #[.string ByteArray.empty, .int .i64 0, .int .i64 0]), 3, 32) := by kernel_rfl
theorem Try.cells57 : Try.prog.cellsOf 57 = 2 := by kernel_rfl

/-- one part -/
def part (nm : Nat → ByteArray) (g r : Nat → Nat) (k : Nat) : List Nat := fld (nm k) ++ uv (g k) ++ uv (r k)
/-- the m parts from k on -/
def restF (nm : Nat → ByteArray) (g r : Nat → Nat) (k : Nat) : Nat → List Nat
  | 0 => []
  | m + 1 => part nm g r k ++ restF nm g r (k + 1) m
theorem restF_len (nm : Nat → ByteArray) (g r : Nat → Nat) (k m : Nat) : 3 * m ≤ (restF nm g r k m).length := by
  induction m generalizing k with
  | zero => exact Nat.zero_le _
  | succ m ih =>
    show _ ≤ (part nm g r k ++ restF nm g r (k + 1) m).length
    unfold part fld
    simp only [List.length_append]
    have := ih (k + 1)
    have h1 := (uv_len (nm k).size).2
    have h2 := (uv_len (g k)).2
    have h3 := (uv_len (r k)).2
    omega

/-- 'make' of rows of three cells -/
theorem run_make3 (t e : TypeId) (z : Value) (ht : Try.prog.underlying t = some (.slice e)) (hinfo : (Try.prog.info? e).map (fun i => (i.zero, i.size, i.bytes)) = some (some z, 3, 32)) (n : Nat) (hn : n ≤ 1000000000) (w : World) :
    (Instr.makeSlice t (.int .i64 (n : Int)) (.int .i64 (n : Int))).run Try.prog w = .ok (.slice (some ⟨w.heap.size, 0, none⟩) n n) (w.alloc (.cells (madeCells z.cells (n * 3)) e)) := by
  obtain ⟨i, hi, hzz⟩ := Option.map_eq_some_iff.1 hinfo
  simp only [Prod.mk.injEq] at hzz
  obtain ⟨hz, hs, hb⟩ := hzz
  have := run_make (P := Try.prog) w t e i z ht hi hz .i64 .i64 n n (by omega) (Int.le_refl _) (by rw [hb]; omega) (by omega)
  rw [hs] at this
  simpa using this
theorem row_made (w : World) (z : Array Value) (N : Nat) (t : TypeId) : ∃ f, (w.alloc (.cells (madeCells z N) t)).rowIs w.heap.size t N f := by
  refine ⟨fun i => (madeCells z N)[i]?.getD undef, ?_⟩
  have h := World.rowIs_alloc w (madeCells z N) t (fun i => (madeCells z N)[i]?.getD undef) (fun i hi => by rw [Array.getElem?_eq_getElem hi]; rfl)
  rwa [size_madeCells] at h
theorem row_step {w : World} {b : Nat} {t : TypeId} {N k : Nat} {f z : Nat → Value} (h : w.rowIs b t N (fun j => if j < k then f j else z j)) :
    (w.setCell ⟨b, k, none⟩ (f k)).rowIs b t N (fun j => if j < k + 1 then f j else z j) :=
  (h.set k (f k)).congr (fun j _ => by
    show (if j = k then f k else if j < k then f j else z j) = if j < k + 1 then f j else z j
    by_cases e : j = k
    · subst e; simp
    · by_cases e2 : j < k
      · rw [if_neg e, if_pos e2, if_pos (by omega)]
      · rw [if_neg e, if_neg e2, if_neg (by omega)])
/-- the cells of the parts -/
def PK (nm : Nat → ByteArray) (g r : Nat → Nat) (i : Nat) : Value := if i % 3 = 0 then .string (nm (i / 3)) else if i % 3 = 1 then .int .i64 (g (i / 3) : Int) else .int .i64 (r (i / 3) : Int)
theorem PK0 (nm : Nat → ByteArray) (g r : Nat → Nat) (k : Nat) : PK nm g r (3 * k) = .string (nm k) := by
  unfold PK; rw [if_pos (by omega), show 3 * k / 3 = k by omega]
theorem PK1 (nm : Nat → ByteArray) (g r : Nat → Nat) (k : Nat) : PK nm g r (3 * k + 1) = .int .i64 (g k : Int) := by
  unfold PK; rw [if_neg (by omega), if_pos (by omega), show (3 * k + 1) / 3 = k by omega]
theorem PK2 (nm : Nat → ByteArray) (g r : Nat → Nat) (k : Nat) : PK nm g r (3 * k + 2) = .int .i64 (r k : Int) := by
  unfold PK; rw [if_neg (by omega), if_neg (by omega), show (3 * k + 2) / 3 = k by omega]
theorem row3_step {w : World} {b : Nat} {t : TypeId} {N k : Nat} {nm : Nat → ByteArray} {g r : Nat → Nat} {z : Nat → Value} (h : w.rowIs b t N (fun j => if j < 3 * k then PK nm g r j else z j)) :
    (((w.setCell ⟨b, 3 * k, none⟩ (.string (nm k))).setCell ⟨b, 3 * k + 1, none⟩ (.int .i64 (g k : Int))).setCell ⟨b, 3 * k + 2, none⟩ (.int .i64 (r k : Int))).rowIs b t N (fun j => if j < 3 * (k + 1) then PK nm g r j else z j) := by
  have h1 := row_step h
  rw [PK0] at h1
  have h2 := row_step h1
  rw [PK1] at h2
  have h3 := row_step h2
  rw [PK2] at h3
  exact h3

theorem Rd.drew {w : World} {rb bb n c a : Nat} (h : Rd w rb bb n c a) : Rd w.drew rb bb n c a := ⟨h.c0, h.c1, h.c2, h.f1, h.f2⟩
theorem Body.drew {w : World} {bb n : Nat} {T : List Nat} (h : Body w bb n T) : Body w.drew bb n T := ⟨h.len, h.le, h.cell⟩
theorem row_some {w : World} {b : Nat} {t : TypeId} {N i : Nat} {f : Nat → Value} (h : w.rowIs b t N f) (hi : i < N) : ∃ v, w.cell? ⟨b, i, none⟩ = some v := ⟨_, h.cell hi⟩
theorem set3_other {w : World} {db ob o i j l : Nat} {u v x y : Value} (h : w.cell? ⟨db, o, none⟩ = some y) (hne : db ≠ ob) :
    (((w.setCell ⟨ob, i, none⟩ u).setCell ⟨ob, j, none⟩ v).setCell ⟨ob, l, none⟩ x).cell? ⟨db, o, none⟩ = some y :=
  (World.cell?_of_block (w := w) (((Below.heap_setCell _ _ _ db hne).trans (Below.heap_setCell _ _ _ db hne)).trans (Below.heap_setCell _ _ _ db hne))).trans h
theorem drop_le {T X Y : List Nat} {a : Nat} (h : T.drop a = X ++ Y) (ha : a ≤ T.length) : a + X.length ≤ T.length := by
  have e := congrArg List.length h
  rw [List.length_drop, List.length_append] at e
  omega
theorem ret_pb {p : Option Addr} {a b : Bool} (h : a = b) : Ending.returned (.tuple #[.pointer p, .bool a]) = .returned (.tuple #[.pointer p, .bool b]) := by rw [h]
theorem drop_app {T X Y : List Nat} {a : Nat} (h : T.drop a = X ++ Y) : T.drop (a + X.length) = Y := by
  rw [← List.drop_drop, h, List.drop_left]
set_option maxRecDepth 100000 in
set_option maxHeartbeats 4000000 in
theorem readDecision_any (bb L c n : Nat) (id : ByteArray) (nm : Nat → ByteArray) (g r : Nat → Nat) (T : List Nat) (w : World) (hB : Body w bb L T) (hT : T = fld id ++ (uv n ++ restF nm g r 0 n)) (hg : ∀ j, j < n → g j < 9223372036854775808) (hr : ∀ j, j < n → r j < 9223372036854775808)
    (hc : L ≤ c) (hc2 : c ≤ maxLen) :
    Calls Try.prog 22 #[.slice (some ⟨bb, 0, none⟩) L c] w fun e w' => ∃ db ob, e = .returned (.tuple #[.pointer (some ⟨db, 0, none⟩), .bool (decide (n ≠ 0))]) ∧ w'.cell? ⟨db, 0, none⟩ = some (.string id) ∧ w'.cell? ⟨db, 1, none⟩ = some (.slice (some ⟨ob, 0, none⟩) n n) ∧ w'.rowIs ob 61 (n * 3) (PK nm g r) ∧ Below w.heap.size w w' := by
  have hd0 : T.drop 0 = fld id ++ (uv n ++ restF nm g r 0 n) := hT
  have hle := hB.le
  have hn : 3 * n ≤ L := by
    have := restF_len nm g r 0 n
    rw [← hB.len, hT]
    simp only [List.length_append]; omega
  have hmk := run_make3 55 61 (.agg #[.string ByteArray.empty, .int .i64 0, .int .i64 0]) Try.underlying55 Try.info61 n (by omega)
  have hL : 0 < L := by
    have := (uv_len id.size).2
    rw [← hB.len, hT]; unfold fld
    simp only [List.length_append]; omega
  have hbb : bb < w.heap.size := cell_lt (hB.cell 0 hL)
  have HD0 : Hid (T.drop 0 = fld id ++ (uv n ++ restF nm g r 0 n)) := hd0
  have HD1 : Hid (T.drop (0 + (fld id).length) = uv n ++ restF nm g r 0 n) := drop_app hd0
  have HD2 : Hid (T.drop (0 + (fld id).length + (uv n).length) = restF nm g r 0 n) := drop_app (drop_app hd0)
  clear hd0 hT
  have hR0 : Rd (w.alloc (.cells #[.slice (some ⟨bb, 0, none⟩) L c, .int .i64 0, .bool true] 85)) w.heap.size bb L c 0 := ⟨by simp [go_sem], by simp [go_sem], by simp [go_sem], by simp [go_sem], by simp [go_sem]⟩
  have hB0 : Body (w.alloc (.cells #[.slice (some ⟨bb, 0, none⟩) L c, .int .i64 0, .bool true] 85)) bb L T := hB.block (Below.heap_alloc _ _ _ hbb)
  have b0 : Below w.heap.size w (w.alloc (.cells #[.slice (some ⟨bb, 0, none⟩) L c, .int .i64 0, .bool true] 85)) := (Below.refl _ _).alloc (Nat.le_refl _) _
  go_enter Try.func22, Try.ntmps22
  go_wp2_with fail
  refine (field_any w.heap.size bb L c 0 id T _ _ hR0 hB0 HD0.out hc hc2).mono ?_
  rintro e w1 ⟨rfl, hR1, hg1⟩
  have hB1 := hB0.turn hg1 (Nat.ne_of_lt hbb)
  have b1 : Below w.heap.size w w1 := b0.grown hg1 b0.size (fun j hj => by cases hj; exact Nat.le_refl _)
  have s1 : w.heap.size < w1.heap.size := cell_lt hR1.c0
  clear hR0 hB0 b0 hg1 hB
  go_wp2_with fail
  have hR2 : Rd (w1.alloc (.cells #[.string id, .slice none 0 0] 57)) w.heap.size bb L c (0 + (fld id).length) := hR1.block (Below.heap_alloc _ _ _ s1)
  have hB2 : Body (w1.alloc (.cells #[.string id, .slice none 0 0] 57)) bb L T := hB1.block (Below.heap_alloc _ _ _ (by omega))
  refine (count_any w.heap.size bb L c _ n T _ _ hR2 hB2 HD1.out (restF_len nm g r 0 n) hc hc2).mono ?_
  rintro e w3 ⟨rfl, hR3, hg3⟩
  have hD2 : (w1.alloc (.cells #[.string id, .slice none 0 0] 57)).rowIs w1.heap.size 57 2 (fun i => if i = 0 then .string id else .slice none 0 0) :=
    World.rowIs_alloc w1 #[.string id, .slice none 0 0] 57 _ (fun i hi => by
      have : i = 0 ∨ i = 1 := by simp at hi; omega
      rcases this with rfl | rfl <;> rfl)
  have hD3 : w3.rowIs w1.heap.size 57 2 (fun i => if i = 0 then .string id else .slice none 0 0) := hD2.of_block (hg3.block _ hD2.lt (fun e => by have := Option.some.inj e; omega))
  have hB3 := hB2.turn hg3 (Nat.ne_of_lt hbb)
  have b2 : Below w.heap.size w (w1.alloc (.cells #[.string id, .slice none 0 0] 57)) := b1.alloc b1.size _
  have b3 : Below w.heap.size w w3 := b2.grown hg3 b2.size (fun j hj => by cases hj; exact Nat.le_refl _)
  have s3 : w1.heap.size < w3.heap.size := hD3.lt
  clear hR2 hB2 hD2 b2 hg3 b1 hR1 hB1
  have hdc : ∀ o, (w3.alloc o).cell? ⟨w1.heap.size, 1, none⟩ = some (.slice none 0 0) := fun o => (hD3.alloc o).cell (i := 1) (by omega)
  have hdf : ∀ o, (w3.alloc o).frozen? ⟨w1.heap.size, 1, none⟩ = false := fun o => (hD3.alloc o).frozen 1
  have hds : ∀ v o, ((w3.setCell ⟨w1.heap.size, 1, none⟩ v).alloc o).cell? ⟨w1.heap.size, 1, none⟩ = some v := fun v o => (World.rowIs.alloc (World.rowIs.set hD3 1 v) o).cell (i := 1) (by omega)
  go_wp2_with fail
  obtain ⟨f0, hO4⟩ := row_made (w3.setCell ⟨w1.heap.size, 1, none⟩ (.slice (some ⟨w3.heap.size, 0, none⟩) n n)) #[.string ByteArray.empty, .int .i64 0, .int .i64 0] (n * 3) 61
  have e4 : (w3.setCell ⟨w1.heap.size, 1, none⟩ (.slice (some ⟨w3.heap.size, 0, none⟩) n n)).heap.size = w3.heap.size := by simp [World.setCell]
  rw [e4] at hO4
  have hRs : Rd (w3.setCell ⟨w1.heap.size, 1, none⟩ (.slice (some ⟨w3.heap.size, 0, none⟩) n n)) w.heap.size bb L c (0 + (fld id).length + (uv n).length) := hR3.block (Below.heap_setCell _ _ _ _ (by show w.heap.size ≠ w1.heap.size; omega))
  have hBs : Body (w3.setCell ⟨w1.heap.size, 1, none⟩ (.slice (some ⟨w3.heap.size, 0, none⟩) n n)) bb L T := hB3.block (Below.heap_setCell _ _ _ _ (by show bb ≠ w1.heap.size; omega))
  have hR4 := hRs.block (Below.heap_alloc _ (.cells (madeCells #[.string ByteArray.empty, .int .i64 0, .int .i64 0] (n * 3)) 61) _ (by rw [e4]; omega))
  have hB4 := hBs.block (Below.heap_alloc _ (.cells (madeCells #[.string ByteArray.empty, .int .i64 0, .int .i64 0] (n * 3)) 61) _ (by rw [e4]; omega))
  have hD4 := (World.rowIs.set hD3 1 (.slice (some ⟨w3.heap.size, 0, none⟩) n n)).alloc (.cells (madeCells #[.string ByteArray.empty, .int .i64 0, .int .i64 0] (n * 3)) 61)
  have b4 : Below w.heap.size w ((w3.setCell ⟨w1.heap.size, 1, none⟩ (.slice (some ⟨w3.heap.size, 0, none⟩) n n)).alloc (.cells (madeCells #[.string ByteArray.empty, .int .i64 0, .int .i64 0] (n * 3)) 61)) := (b3.setCell (show w.heap.size ≤ w1.heap.size by omega) _).alloc (by rw [e4]; omega) _
  generalize (w3.setCell ⟨w1.heap.size, 1, none⟩ (.slice (some ⟨w3.heap.size, 0, none⟩) n n)).alloc (.cells (madeCells #[.string ByteArray.empty, .int .i64 0, .int .i64 0] (n * 3)) 61) = w4 at hO4 hR4 hB4 hD4 b4 ⊢
  clear hds hdc hdf hRs hBs e4 hR3 hB3 hD3 b3 hmk
  generalize w3.heap.size = ob at hO4 hD4 s3 ⊢
  generalize w1.heap.size = db at hD4 s1 s3 ⊢
  have hD5 : w4.rowIs db 57 2 (fun i => if i = 0 then .string id else .slice (some ⟨ob, 0, none⟩) n n) := hD4.congr (fun i hi => by
    have : i = 0 ∨ i = 1 := by omega
    rcases this with rfl | rfl <;> rfl)
  clear hD4
  have HG := (show Hid (∀ j, j < n → g j < 9223372036854775808) from hg)
  have HRR := (show Hid (∀ j, j < n → r j < 9223372036854775808) from hr)
  clear hg hr
  obtain ⟨rb, hrb⟩ : ∃ rb, rb = w.heap.size := ⟨_, rfl⟩
  have HRB : Hid (rb = w.heap.size) := hrb
  rw [← hrb] at hR4 hbb s1 ⊢
  clear hrb
  go_loopw [25] (fun i wr => ∃ (k a : Nat), i = .int .i64 (k : Int) ∧ k ≤ n ∧ a ≤ L ∧ Rd wr rb bb L c a ∧ Body wr bb L T ∧ Hid (T.drop a = restF nm g r k (n - k)) ∧ wr.rowIs ob 61 (n * 3) (fun j => if j < 3 * k then PK nm g r j else f0 j) ∧ wr.rowIs db 57 2 (fun i => if i = 0 then .string id else .slice (some ⟨ob, 0, none⟩) n n) ∧ Below w.heap.size w wr) (fun i _ => n - (intOf i).toNat)
  case atStart => exact ⟨0, _, rfl, Nat.zero_le _, by rw [← hB4.len]; exact drop_le HD1.out (drop_le HD0.out (Nat.zero_le _)), hR4, hB4, HD2.out, hO4.congr (fun i hi => by simp), hD5, b4⟩
  case round =>
    clear hR4 hB4 hO4 hD5 b4
    obtain ⟨k, a, rfl, hk, haL, hR, hB, HT, hO, hD, hb⟩ := hrel
    by_cases hlt : k < n
    · obtain ⟨m, hm⟩ : ∃ m, n - k = m + 1 := ⟨n - k - 1, by omega⟩
      have t0 : T.drop a = fld (nm k) ++ (uv (g k) ++ (uv (r k) ++ restF nm g r (k + 1) m)) := by
        rw [HT.out, hm]; show part nm g r k ++ _ = _; unfold part; simp only [List.append_assoc]
      have T0 : Hid (T.drop a = fld (nm k) ++ (uv (g k) ++ (uv (r k) ++ restF nm g r (k + 1) m))) := t0
      have T1 : Hid (T.drop (a + (fld (nm k)).length) = uv (g k) ++ (uv (r k) ++ restF nm g r (k + 1) m)) := drop_app t0
      have T2 : Hid (T.drop (a + (fld (nm k)).length + (uv (g k)).length) = uv (r k) ++ restF nm g r (k + 1) m) := drop_app (drop_app t0)
      have T3 : Hid (T.drop (a + (fld (nm k)).length + (uv (g k)).length + (uv (r k)).length) = restF nm g r (k + 1) (n - (k + 1))) := by
        have e : n - (k + 1) = m := by omega
        rw [e]; exact drop_app (drop_app (drop_app t0))
      clear t0 HT hm
      go_wp2_with fail
      refine (field_any rb bb L c a (nm k) T _ wr hR hB T0.out hc hc2).mono ?_
      rintro e w5 ⟨rfl, hR5, hg5⟩
      have hB5 := hB.turn hg5 (by omega)
      have hO5 := hO.of_block (hg5.block _ hO.lt (fun e => by have := Option.some.inj e; omega))
      have hD5 := hD.of_block (hg5.block _ hD.lt (fun e => by have := Option.some.inj e; omega))
      have b5 : Below w.heap.size w w5 := hb.grown hg5 hb.size (fun j hj => by cases hj; rw [HRB.out]; exact Nat.le_refl _)
      clear hR hB hO hD hb hg5
      have sl5 : w5.cell? ⟨db, 1, none⟩ = some (.slice (some ⟨ob, 0, none⟩) n n) := hD5.cell (i := 1) (by omega)
      have i1 : (k : Int) < (n : Int) := by omega
      go_wp2_with fail
      go_region_held3 (fun w' => w'.cell? ⟨db, 1, none⟩ = some (.slice (some ⟨ob, 0, none⟩) n n)) (first | assumption | exact sl8 _ _ _ | simp [go_sem])
        (first
          | (go_at_call 27; have _t := hR6; refine (number_any rb bb L c _ (r k) T _ _ hR6 hB6 T2.out (HRR.out k hlt) hc hc2).mono ?_; rintro e w7 ⟨rfl, hR7, hg7⟩; have hB7 := hB6.turn hg7 (by omega); have sl7 := cell_turn hg7 sl6 (by omega); have hO7 := hO6.of_block (hg7.block _ hO6.lt (fun e => by have := Option.some.inj e; omega)); have x0 := row_some hO7 (show k * 3 < n * 3 by omega); have x1 := row_some hO7 (show k * 3 + 1 < n * 3 by omega); have x2 := row_some hO7 (show k * 3 + 2 < n * 3 by omega); obtain ⟨y0, x0⟩ := x0; obtain ⟨y1, x1⟩ := x1; obtain ⟨y2, x2⟩ := x2; have z0 := hO7.frozen (k * 3); have z1 := hO7.frozen (k * 3 + 1); have z2 := hO7.frozen (k * 3 + 2); have sl8 := fun u v x => set3_other (u := u) (v := v) (x := x) (i := k * 3) (j := k * 3 + 1) (l := k * 3 + 2) sl7 (show db ≠ ob by omega))
          | (go_at_call 27; refine (number_any rb bb L c _ (g k) T _ _ ?_ ?_ T1.out (HG.out k hlt) hc hc2).mono ?_; (first | exact hR5.drew | exact hR5); (first | exact hB5.drew | exact hB5); rintro e w6 ⟨rfl, hR6, hg6⟩; have hB6 := hB5.drew.turn hg6 (by omega); have sl6 := cell_turn hg6 sl5 (by omega); have hO6 := hO5.drew.of_block (hg6.block _ hO5.lt (fun e => by have := Option.some.inj e; omega))))
      have e3 : k * 3 = 3 * k := Nat.mul_comm _ _
      have hO8 := row3_step hO7
      have hk8 : ∀ i, i ≠ ob → (((w7.setCell ⟨ob, 3 * k, none⟩ (.string (nm k))).setCell ⟨ob, 3 * k + 1, none⟩ (.int .i64 (g k : Int))).setCell ⟨ob, 3 * k + 2, none⟩ (.int .i64 (r k : Int))).heap[i]? = w7.heap[i]? := fun i hi => ((Below.heap_setCell _ _ _ i hi).trans (Below.heap_setCell _ _ _ i hi)).trans (Below.heap_setCell _ _ _ i hi)
      have hR8 := hR7.block (hk8 rb (by omega))
      have hB8 := hB7.block (hk8 bb (by omega))
      have hD6 := hD5.drew.of_block (hg6.block _ hD5.lt (fun e => by have := Option.some.inj e; omega))
      have hD7 := hD6.of_block (hg7.block _ hD6.lt (fun e => by have := Option.some.inj e; omega))
      have hD8 := hD7.of_block (hk8 db (by omega))
      have b6 : Below w.heap.size w w6 := b5.drew.grown hg6 b5.size (fun j hj => by cases hj; rw [HRB.out]; exact Nat.le_refl _)
      have b7 : Below w.heap.size w w7 := b6.grown hg7 b6.size (fun j hj => by cases hj; rw [HRB.out]; exact Nat.le_refl _)
      have q0 : w.heap.size ≤ ob := by have := HRB.out; omega
      have b8 : Below w.heap.size w (((w7.setCell ⟨ob, 3 * k, none⟩ (.string (nm k))).setCell ⟨ob, 3 * k + 1, none⟩ (.int .i64 (g k : Int))).setCell ⟨ob, 3 * k + 2, none⟩ (.int .i64 (r k : Int))) := ((b7.setCell q0 _).setCell q0 _).setCell q0 _
      rw [e3]
      generalize ((w7.setCell ⟨ob, 3 * k, none⟩ (.string (nm k))).setCell ⟨ob, 3 * k + 1, none⟩ (.int .i64 (g k : Int))).setCell ⟨ob, 3 * k + 2, none⟩ (.int .i64 (r k : Int)) = w8 at hO8 hR8 hB8 hD8 b8 ⊢
      clear hk8 sl8 sl7 x0 x1 x2 z0 z1 z2 hO7 hR7 hB7 hD7 hD6 b7 b6 hg7 hg6 hR6 hB6 sl6 hO6 hR5 hB5 hO5 hD5 b5 sl5 e3
      go_wp2
      go_roundw
      case rel => exact ⟨k + 1, _, by go_num, by omega, by rw [← hB8.len]; exact drop_le T2.out (drop_le T1.out (drop_le T0.out (by rw [hB8.len]; exact haL))), hR8, hB8, T3.out, hO8, hD8, b8⟩
      case measure => simp [intOf]; omega
    · obtain rfl : n = k := by omega
      have c2 := hR.c2
      have c1 := hR.c1
      have d1 : wr.cell? ⟨db, 1, none⟩ = some (.slice (some ⟨ob, 0, none⟩) n n) := hD.cell (i := 1) (by omega)
      obtain rfl : a = L := by
        have e := congrArg List.length HT.out
        rw [Nat.sub_self, List.length_drop, hB.len] at e
        have e2 : (restF nm g r n 0).length = 0 := rfl
        rw [e2] at e
        omega
      go_wp2_with fail
      go_quiet (fail)
      go_wp2
      go_ret2
      refine ⟨db, ob, ret_pb ?_, hD.cell (i := 0) (by omega), d1, hO.congr (fun i hi => if_pos (by omega)), below_drewN hb _⟩
      by_cases h0 : n = 0
      · simp [h0]
      · simp [h0]
end Go.Proofs.Qxb6604343a
