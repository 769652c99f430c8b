/-
  THE WALK of FnSweepMatchesModel, out of the contracts.
-/
import Derived.Test.Qxb6603706aCount
namespace Go.Proofs.Qxb6603706a
open Go.RowKit Go.Maps
set_option linter.unusedVariables false

theorem cloneS_any (a : Option Addr) (n c : Nat) (ss : Nat → ByteArray) (w : World) (hz : a = none → n = 0 ∧ c = 0) (hn : n ≤ 65536) (hs : Sl w a n (strV ss)) : Calls Try.prog 15 #[.slice a n c] w fun e w' => Cloned w w' 9 n (strV ss) e ∧ True := by
  cases a with
  | none => obtain ⟨rfl, rfl⟩ := hz rfl; exact cloneS_nil w _
  | some x => exact cloneS_some x n c ss w hn hs
theorem cloneI_any (a : Option Addr) (n c : Nat) (zs : Nat → Int) (w : World) (hz : a = none → n = 0 ∧ c = 0) (hn : n ≤ 65536) (hs : Sl w a n (intV zs)) : Calls Try.prog 16 #[.slice a n c] w fun e w' => Cloned w w' 2 n (intV zs) e ∧ True := by
  cases a with
  | none => obtain ⟨rfl, rfl⟩ := hz rfl; exact cloneI_nil w _
  | some x => exact cloneI_some x n c zs w hn hs
theorem Sl.below {w w' : World} {a : Option Addr} {n : Nat} {f : Nat → Value} (h : Sl w a n f) (hb : Below w.heap.size w w') : Sl w' a n f := by
  intro hn
  obtain ⟨b, o, rfl, hc⟩ := h hn
  exact ⟨b, o, rfl, fun j hj => (hb.cell (cell_lt (hc j hj))).trans (hc j hj)⟩
theorem Sl.ofRow {w : World} {b : Nat} {t : TypeId} {n : Nat} {f : Nat → Value} {a : Option Addr} (h : 0 < n → a = some ⟨b, 0, none⟩ ∧ w.rowIs b t n f) : Sl w a n f := by
  intro hn
  obtain ⟨rfl, hr⟩ := h hn
  exact ⟨b, 0, rfl, fun j hj => by rw [Nat.zero_add]; exact hr.cell hj⟩
theorem rowBelow {w w' : World} {B b : Nat} {t : TypeId} {n : Nat} {f : Nat → Value} (h : w.rowIs b t n f) (hb : Below B w w') (hlt : b < B) : w'.rowIs b t n f := h.of_block (hb.block b hlt)

theorem val_int {k : IntKind} {a b : Int} (h : a = b) : Value.int k a = .int k b := by rw [h]
/-- the set of seen keys -/
def SeenOk (S : DataW Unit) : Prop := ∀ x, S.atKey x (.lit (.bool false)) = .lit (.bool (has S x))
theorem seen_start : SeenOk (.map []) := fun x => rfl
theorem seen_put {S : DataW Unit} (h : SeenOk S) (hm : IsMap S) {x : Lit} (hx : WideAt.IsKeyLit x) : SeenOk (S.put x (.lit (.bool true))) := by
  intro y
  by_cases e : y = x
  · subst e
    rw [atKey_put_same hm hx, has_put_same hm hx]
  · rw [atKey_put_other e, has_put_other e, h y]
theorem zero4 (w : World) : (zeroValue 4).run Try.prog w = .ok (.bool false) w := by kernel_rfl
theorem plainElem_bool_inv {v : Value} {z : DataW Unit × List MemPlace} (h : plainElem Try.prog 4 v = some z) : ∃ x, v = .bool x ∧ z = (.lit (.bool x), []) := by
  unfold plainElem at h
  rw [Try.underlying4] at h
  cases v <;> simp at h
  exact ⟨_, rfl, h.symm⟩
/-- the keys seen are the first k -/
def SeenKeys (ss : Nat → ByteArray) (S : DataW Unit) (k : Nat) : Prop := ∀ x, has S x = true ↔ ∃ j, j < k ∧ x = kl (ss j)
theorem keys_start (ss : Nat → ByteArray) : SeenKeys ss (.map []) 0 := fun x => by
  constructor
  · intro h; exact absurd h (by show ¬ (false = true); simp)
  · rintro ⟨j, hj, _⟩; omega
theorem keys_again {ss : Nat → ByteArray} {S : DataW Unit} {k : Nat} (h : SeenKeys ss S k) (hs : has S (kl (ss k)) = true) : SeenKeys ss S (k + 1) := fun x => by
  constructor
  · intro hx; obtain ⟨j, hj, e⟩ := (h x).1 hx; exact ⟨j, by omega, e⟩
  · rintro ⟨j, hj, rfl⟩
    rcases Nat.lt_succ_iff_lt_or_eq.1 hj with h1 | rfl
    · exact (h _).2 ⟨j, h1, rfl⟩
    · exact hs
theorem keys_new {ss : Nat → ByteArray} {S : DataW Unit} {k : Nat} (h : SeenKeys ss S k) (hm : IsMap S) (u : DataW Unit) : SeenKeys ss (S.put (kl (ss k)) u) (k + 1) := fun x => by
  by_cases e : x = kl (ss k)
  · rw [e, has_put_same hm (kl_key _)]
    exact ⟨fun _ => ⟨k, by omega, rfl⟩, fun _ => rfl⟩
  · rw [has_put_other e, h x]
    constructor
    · rintro ⟨j, hj, e2⟩; exact ⟨j, by omega, e2⟩
    · rintro ⟨j, hj, e2⟩
      rcases Nat.lt_succ_iff_lt_or_eq.1 hj with h1 | rfl
      · exact ⟨j, h1, e2⟩
      · exact absurd e2 e
theorem ownsMap_below {w w' : World} {R : Value → Option (DataW Unit × List MemPlace)} {b n B : Nat} {D : DataW Unit} (h : w.ownsMap Try.prog 9 R b n D) (hb : Below B w w') (hlt : b < B) : w'.ownsMap Try.prog 9 R b n D := by
  obtain ⟨es, clock, hbk, r⟩ := h
  exact ⟨es, clock, (hb.block b hlt).trans hbk, r⟩
/-- 'seen[key]' -/
theorem seen_look {w : World} {b n : Nat} {S : DataW Unit} (h : w.ownsMap Try.prog 9 (plainElem Try.prog 4) b n S) (hS : SeenOk S) {s : ByteArray} (hs : s.size ≤ maxLen) :
    (Instr.lookup 43 (.map (some b)) (.string s) false).run Try.prog w = .ok (.bool (has S (kl s))) w := by
  obtain ⟨v, ps, hrun, hv⟩ := h.lookup law9 Try.underlying43 (zero4 w) (plainElem_bool Try.underlying4 false) (keyOf_kl hs)
  obtain ⟨x, rfl, hx⟩ := plainElem_bool_inv hv
  have e := congrArg Prod.fst hx
  simp only [hS (kl s)] at e
  cases e
  exact hrun

theorem run_makeMap43 (x : Int) (w : World) : (Instr.makeMap 43 (some (.int .i64 x))).run Try.prog w = .ok (.map (some w.heap.size)) (w.alloc (.map #[] 0)) := by
  simp [Instr.makeMap, run_underlying Try.underlying43, asInt, asIntOf, Result.andThen]

set_option maxRecDepth 100000 in
set_option maxHeartbeats 4000000 in
theorem law_walk (a0 a1 a2 : Option Addr) (l0 l1 l2 c0 c1 c2 : Nat) (ss : Nat → ByteArray) (f l : Nat → Int) (pk now idle : Int) (w : World)
    (h0 : l0 ≤ maxLen) (h1 : l1 ≤ maxLen) (h2 : l2 ≤ maxLen) (hs0 : Sl w a0 l0 (strV ss)) (hs1 : Sl w a1 l1 (intV f)) (hs2 : Sl w a2 l2 (intV l))
    (hz0 : a0 = none → l0 = 0 ∧ c0 = 0) (hz1 : a1 = none → l1 = 0 ∧ c1 = 0) (hz2 : a2 = none → l2 = 0 ∧ c2 = 0) (hsz : ∀ j, j < l0 → (ss j).size ≤ maxLen)
    (hp1 : -9223372036854775808 ≤ pk) (hp2 : pk ≤ 9223372036854775807) :
    Calls Try.prog 6 #[.slice a0 l0 c0, .slice a1 l1 c1, .slice a2 l2 c2, .int .i64 pk, .int .i64 now, .int .i64 idle] w fun e w' => e = .returned (.bool true) ∧ Below w.heap.size w w' := by
  have m0 : l0 ≤ 9223372036854775807 := h0
  have m1 : l1 ≤ 9223372036854775807 := h1
  have m2 : l2 ≤ 9223372036854775807 := h2
  go_enter Try.func6, Try.ntmps6
  go_wp2_with fail
  refine (bytes_any a0 a1 a2 l0 l1 l2 c0 c1 c2 pk now idle ss _ h0 h1 h2 hs0).mono ?_
  rintro e w' ⟨⟨bb, rfl⟩, hw⟩
  obtain rfl : w = w' := hw.symm
  clear hw
  cases bb
  · go_wp2_with fail
    go_ret
    exact ⟨rfl, Below.refl _ _⟩
  by_cases q0 : 65536 < l0
  · go_wp2_with fail
    go_ret
    exact ⟨rfl, Below.refl _ _⟩
  by_cases q1 : 65536 < l1
  · go_wp2_with fail
    go_ret
    exact ⟨rfl, Below.refl _ _⟩
  by_cases q2 : 65536 < l2
  · go_wp2_with fail
    go_ret
    exact ⟨rfl, Below.refl _ _⟩
  go_wp2_with fail
  refine (small_any a0 a1 a2 l0 l1 l2 c0 c1 c2 _ ss _ h0 h1 h2 hs0).mono ?_
  rintro e w' ⟨⟨bb, rfl⟩, hw⟩
  obtain rfl : w = w' := hw.symm
  clear hw
  cases bb
  · go_wp2_with fail
    go_ret
    exact ⟨rfl, Below.refl _ _⟩
  cases hn1 : inB now
  · go_wp2_with (go_at_call 8; refine (in_any _ _).mono ?_; rintro e w' ⟨rfl, rfl⟩)
    go_ret
    exact ⟨rfl, Below.refl _ _⟩
  cases hn2 : inB idle
  · go_wp2_with (go_at_call 8; refine (in_any _ _).mono ?_; rintro e w' ⟨rfl, rfl⟩)
    go_ret
    exact ⟨rfl, Below.refl _ _⟩
  go_wp2_with fail
  refine (in_any _ _).mono ?_
  rintro e w' ⟨rfl, hw⟩
  obtain rfl : w = w' := hw.symm
  clear hw
  go_wp2_with fail
  refine (in_any _ _).mono ?_
  rintro e w' ⟨rfl, hw⟩
  obtain rfl : w = w' := hw.symm
  clear hw
  go_wp2_with fail
  refine (n_any a0 a1 a2 l0 l1 l2 c0 c1 c2 _ h0 h1 h2).mono ?_
  rintro e w' ⟨n, rfl, k0, k1, k2, hw⟩
  obtain rfl : w = w' := hw.symm
  clear hw
  go_wp2_with fail
  refine (timesIn_any a1 a2 l1 l2 c1 c2 n f l _ h1 h2 k1 k2 hs1 hs2).mono ?_
  rintro e w' ⟨⟨bb, rfl, hti⟩, hw⟩
  obtain rfl : w = w' := hw.symm
  clear hw
  cases bb
  · go_wp2_with fail
    go_ret
    exact ⟨rfl, Below.refl _ _⟩
  have hin := hti rfl
  clear hti
  rcases Nat.eq_zero_or_pos n with rfl | hpos
  · go_wp2_with fail
    refine (cloneS_any a0 l0 c0 ss _ hz0 (by omega) hs0).mono ?_
    rintro e w1 ⟨⟨a0', c0', rfl, hr0, hb1⟩, _⟩
    go_wp2_with fail
    refine (cloneI_any a1 l1 c1 f _ hz1 (by omega) (hs1.below hb1)).mono ?_
    rintro e w2 ⟨⟨a1', c1', rfl, hr1, hb2⟩, _⟩
    go_wp2_with fail
    refine (cloneI_any a2 l2 c2 l _ hz2 (by omega) ((hs2.below hb1).below hb2)).mono ?_
    rintro e w3 ⟨⟨a2', c2', rfl, hr2, hb3⟩, _⟩
    have Y0 : Sl w3 a0' l0 (strV ss) := ((Sl.ofRow hr0).below hb2).below hb3
    have Y1 : Sl w3 a1' l1 (intV f) := (Sl.ofRow hr1).below hb3
    have Y2 : Sl w3 a2' l2 (intV l) := Sl.ofRow hr2
    have B3 : Below w.heap.size w w3 := (hb1.trans (hb2.mono hb1.size)).trans (hb3.mono (Nat.le_trans hb1.size hb2.size))
    clear hr0 hr1 hr2 hb1 hb2 hb3 hs0 hs1 hs2 hz0 hz1 hz2
    go_wp2_with fail
    refine (build_any a0' a1' a2' l0 l1 l2 c0' c1' c2' 0 pk ss f l w3 (by omega) k0 k1 k2 (by omega) (by omega) (by omega) Y0 Y1 Y2 (fun j hj => hsz j (by omega)) hin).mono ?_
    rintro e w4 ⟨rfl, hT4, hb4⟩
    have B4 : Below w.heap.size w w4 := B3.trans (hb4.mono B3.size)
    have o0 : w.heap.size ≤ w3.heap.size := B3.size
    clear Y0 Y1 Y2 B3 hb4 hin
    obtain ⟨D0, hD0⟩ : ∃ D, bld ss f l 0 = D := ⟨_, rfl⟩
    rw [hD0] at hT4
    have zD0 : size D0 = 0 := by rw [← hD0]; rfl
    clear hD0
    have hmk : ∀ w, (Instr.makeSlice 30 (.int .i64 0) (.int .i64 0)).run Try.prog w = .ok (.slice (some ⟨w.heap.size, 0, none⟩) 0 0) (w.alloc (.cells (madeCells #[.int .i64 0] 0) 2)) := fun w => run_make_row' (P := Try.prog) 30 2 (.int .i64 0) 8 Try.underlying30 Try.info2 rfl .i64 .i64 0 (by omega) (by omega) w
    generalize htb : w3.heap.size + 1 = tb at hT4 ⊢
    generalize hmb : w3.heap.size = mb at hT4 o0 htb
    have o2 : mb < tb := by omega
    clear htb hmb
    go_wp2_with fail
    refine (len_any tb mb 0 D0 pk _ hT4).mono ?_
    rintro e w' ⟨rfl, hw⟩
    obtain rfl : w4 = w' := hw.symm
    clear hw
    go_wp2_with fail
    have hb5 : Below w4.heap.size w4 ((w4.alloc (.cells (madeCells #[.int .i64 0] 0) 2)).alloc (.cells (madeCells #[.int .i64 0] 0) 2)) := ((Below.refl _ _).alloc (Nat.le_refl _) _).alloc (by simp) _
    have hT5 := hT4.below hb5 hT4.lt hT4.own.lt
    have B5 := B4.trans (hb5.mono B4.size)
    generalize (w4.alloc (.cells (madeCells #[.int .i64 0] 0) 2)).alloc (.cells (madeCells #[.int .i64 0] 0) 2) = w5 at hT5 B5 ⊢
    clear hb5 hT4 B4 hmk
    go_loop [18] (fun i => i = .int .i64 0) (fun i => 0)
    case atStart => exact rfl
    case round =>
      obtain rfl := hrel
      go_wp2_with fail
      refine (zzsweep_any tb mb 0 D0 pk now idle w5 hT5 (by omega) hn1 hn2 hp2).mono ?_
      rintro e w7 ⟨rfl, mb', n', D1, pk', hT7, hsw, hpk', hmb', hn', hK7⟩
      have HPK : Hid (pk' = if (size D1 : Int) < mx pk (size D0) / 2 then (size D1 : Int) else mx pk (size D0)) := hpk'
      have hE : size D1 = 0 := by have := hT7.own.size_le; omega
      clear hsw hpk'
      have hmk := run_makeMap43
      have B7 : Below w.heap.size w w7 := B5.trans (hK7.below B5.size (fun i hi => by rcases hi with rfl | rfl <;> omega))
      have hT8 : Tier (w7.alloc (.map #[] 0)) tb mb' n' D1 pk' := hT7.kept (Below.heap_alloc _ _ _ hT7.lt) (Below.heap_alloc _ _ _ hT7.own.lt)
      have B8 : Below w.heap.size w (w7.alloc (.map #[] 0)) := B7.alloc B7.size _
      go_wp2_with fail
      generalize w7.alloc (.map #[] 0) = w8 at hT8 B8 ⊢
      clear B7 hT7 hK7 hmk hT5 B5
      go_loop [23, 24] (fun kp i => i = .int .i64 0 ∧ kp = .int .i64 0) (fun _ i => 0)
      case atStart => exact ⟨rfl, rfl⟩
      case round =>
        obtain ⟨rfl, rfl⟩ := hrel
        rcases (show (pk < (size D0 : Int) ∧ mx pk (size D0) = (size D0 : Int)) ∨ ((size D0 : Int) ≤ pk ∧ mx pk (size D0) = pk) from by
            by_cases c : pk < (size D0 : Int)
            · exact Or.inl ⟨c, if_pos c⟩
            · exact Or.inr ⟨by omega, if_neg c⟩) with ⟨c1, em⟩ | ⟨c1, em⟩
        all_goals
          by_cases c2 : (size D1 : Int) < mx pk (size D0) / 2
          all_goals
            have e := HPK.out
            first | rw [if_pos c2] at e | rw [if_neg c2, em] at e
            rw [em] at c2
            subst e
            clear em HPK
            first
            | (exfalso; omega)
            | (go_wp2_with fail
               refine (len_any tb mb' n' D1 _ w8 hT8).mono ?_
               rintro e w' ⟨rfl, hw⟩
               obtain rfl : w8 = w' := hw.symm
               clear hw
               go_wp2_with fail
               refine (peak_any tb mb' n' D1 _ w8 hT8).mono ?_
               rintro e w' ⟨rfl, hw⟩
               obtain rfl : w8 = w' := hw.symm
               clear hw
               go_wp2_with fail
               go_ret
               exact ⟨rfl, B8⟩)
  · go_wp2_with fail
    refine (cloneS_any a0 l0 c0 ss _ hz0 (by omega) hs0).mono ?_
    rintro e w1 ⟨⟨a0', c0', rfl, hr0, hb1⟩, _⟩
    obtain ⟨rfl, hr0⟩ := hr0 (by omega)
    go_wp2_with fail
    refine (cloneI_any a1 l1 c1 f _ hz1 (by omega) (hs1.below hb1)).mono ?_
    rintro e w2 ⟨⟨a1', c1', rfl, hr1, hb2⟩, _⟩
    obtain ⟨rfl, hr1⟩ := hr1 (by omega)
    go_wp2_with fail
    refine (cloneI_any a2 l2 c2 l _ hz2 (by omega) ((hs2.below hb1).below hb2)).mono ?_
    rintro e w3 ⟨⟨a2', c2', rfl, hr2, hb3⟩, _⟩
    obtain ⟨rfl, hr2⟩ := hr2 (by omega)
    have z1 : w.heap.size < w1.heap.size := (hr0 (by omega)).2.lt
    have z2 : w1.heap.size < w2.heap.size := (hr1 (by omega)).2.lt
    have z3 : w2.heap.size < w3.heap.size := (hr2 (by omega)).2.lt
    have R0 : w3.rowIs w.heap.size 9 l0 (strV ss) := rowBelow (rowBelow (hr0 (by omega)).2 hb2 z1) hb3 (by omega)
    have R1 : w3.rowIs w1.heap.size 2 l1 (intV f) := rowBelow (hr1 (by omega)).2 hb3 z2
    have R2 : w3.rowIs w2.heap.size 2 l2 (intV l) := (hr2 (by omega)).2
    have B3 : Below w.heap.size w w3 := (hb1.trans (hb2.mono (by omega))).trans (hb3.mono (by omega))
    clear hr0 hr1 hr2 hb1 hb2 hb3 hs0 hs1 hs2 hz0 hz1 hz2
    go_wp2_with fail
    refine (build_any _ _ _ l0 l1 l2 _ _ _ n pk ss f l w3 (by omega) k0 k1 k2 (by omega) (by omega) (by omega) (Sl.ofRow (fun _ => ⟨rfl, R0⟩)) (Sl.ofRow (fun _ => ⟨rfl, R1⟩)) (Sl.ofRow (fun _ => ⟨rfl, R2⟩)) (fun j hj => hsz j (by omega)) hin).mono ?_
    rintro e w4 ⟨rfl, hT4, hb4⟩
    have z4 : w3.heap.size + 1 < w4.heap.size := hT4.lt
    have C4 : ∀ j, j < n → w4.cell? ⟨w.heap.size, j, none⟩ = some (.string (ss j)) := fun j hj => (rowBelow R0 hb4 (by omega)).cell (by omega)
    have B4 : Below w.heap.size w w4 := B3.trans (hb4.mono (by omega))
    have kz : w.heap.size < w3.heap.size := by omega
    clear R0 R1 R2 B3 hb4 z1 z2 z3
    obtain ⟨D0, hD0⟩ : ∃ D, bld ss f l n = D := ⟨_, rfl⟩
    rw [hD0] at hT4
    have P1 : ∀ j, j < n → has D0 (kl (ss j)) = true := fun j hj => by rw [← hD0]; exact (bld_has ss f l n _).2 ⟨j, hj, rfl⟩
    have P2 : ∀ x, has D0 x = true → ∃ j, j < n ∧ x = kl (ss j) := fun x hx => by rw [← hD0] at hx; exact (bld_has ss f l n _).1 hx
    have p1 : Hid (∀ j, j < n → has D0 (kl (ss j)) = true) := P1
    have p2 : Hid (∀ x, has D0 x = true → ∃ j, j < n ∧ x = kl (ss j)) := P2
    clear P1 P2 hD0
    generalize htb : w3.heap.size + 1 = tb at hT4 z4 ⊢
    generalize hmb : w3.heap.size = mb at hT4 kz htb
    have o1 : w.heap.size < mb := kz
    have o2 : mb < tb := by omega
    have o3 : tb < w4.heap.size := z4
    clear htb hmb kz z4
    go_wp2_with fail
    refine (len_any tb mb n D0 pk _ hT4).mono ?_
    rintro e w' ⟨rfl, hw⟩
    obtain rfl : w4 = w' := hw.symm
    clear hw
    have hmk := run_make_row' (P := Try.prog) 30 2 (.int .i64 0) 8 Try.underlying30 Try.info2 rfl .i64 .i64 n (by omega) (by omega)
    go_wp2_with fail
    have RF : ((w4.alloc (.cells (madeCells #[.int .i64 0] n) 2)).alloc (.cells (madeCells #[.int .i64 0] n) 2)).rowIs w4.heap.size 2 n (fun _ => .int .i64 0) := (World.rowIs_made w4 (.int .i64 0) n 2).alloc _
    have RL : ((w4.alloc (.cells (madeCells #[.int .i64 0] n) 2)).alloc (.cells (madeCells #[.int .i64 0] n) 2)).rowIs (w4.heap.size + 1) 2 n (fun _ => .int .i64 0) := by
      have := World.rowIs_made (w4.alloc (.cells (madeCells #[.int .i64 0] n) 2)) (.int .i64 0) n 2
      rwa [World.size_alloc] at this
    have hb5 : Below w4.heap.size w4 ((w4.alloc (.cells (madeCells #[.int .i64 0] n) 2)).alloc (.cells (madeCells #[.int .i64 0] n) 2)) := ((Below.refl _ _).alloc (Nat.le_refl _) _).alloc (by simp) _
    have hT5 := hT4.below hb5 o3 (by omega)
    have C5 : ∀ j, j < n → ((w4.alloc (.cells (madeCells #[.int .i64 0] n) 2)).alloc (.cells (madeCells #[.int .i64 0] n) 2)).cell? ⟨w.heap.size, j, none⟩ = some (.string (ss j)) := fun j hj => (hb5.cell (cell_lt (C4 j hj))).trans (C4 j hj)
    have B5 := B4.trans (hb5.mono (by omega))
    generalize (w4.alloc (.cells (madeCells #[.int .i64 0] n) 2)).alloc (.cells (madeCells #[.int .i64 0] n) 2) = w5 at RF RL hT5 C5 B5 ⊢
    clear hb5 hT4 C4 B4 hmk
    generalize w4.heap.size = fb at RF RL o3 ⊢
    have bnd : n ≤ 65536 := by omega
    obtain ⟨F, hF⟩ : ∃ F : Nat → Int, F = fun j => bF (D0.atKey (kl (ss j)) zb) := ⟨_, rfl⟩
    obtain ⟨L, hL⟩ : ∃ L : Nat → Int, L = fun j => bL (D0.atKey (kl (ss j)) zb) := ⟨_, rfl⟩
    have HF : Hid (F = fun j => bF (D0.atKey (kl (ss j)) zb)) := hF
    have HL : Hid (L = fun j => bL (D0.atKey (kl (ss j)) zb)) := hL
    clear hF hL
    go_loopw [18] (fun i wr => ∃ k : Nat, i = .int .i64 k ∧ k ≤ n ∧ wr.rowIs fb 2 n (fun j => if j < k then intV F j else .int .i64 0) ∧ wr.rowIs (fb + 1) 2 n (fun j => if j < k then intV L j else .int .i64 0) ∧
        (∀ j, j < k → D0.atKey (kl (ss j)) zb = bk (F j) (L j) ∧ inB (F j) = true ∧ inB (L j) = true) ∧
        Tier wr tb mb n D0 pk ∧ (∀ j, j < n → wr.cell? ⟨w.heap.size, j, none⟩ = some (.string (ss j))) ∧ Below w.heap.size w wr) (fun i _ => n - (intOf i).toNat)
    case atStart => exact ⟨0, rfl, by omega, RF.congr (fun i hi => by simp), RL.congr (fun i hi => by simp), fun j hj => by omega, hT5, C5, B5⟩
    case round =>
      obtain ⟨k, rfl, hk, RFr, RLr, hat, hTr, Cr, Br⟩ := hrel
      by_cases hlt : k < n
      · have hck := Cr k hlt
        have hszk := hsz k (by omega)
        have i0 : (k : Int) < (l0 : Int) := by omega
        have HA := (show Hid (∀ j, j < k → D0.atKey (kl (ss j)) zb = bk (F j) (L j) ∧ inB (F j) = true ∧ inB (L j) = true) from hat)
        clear hat
        go_wp2_with fail
        refine (get_any tb mb n D0 pk (ss k) wr hTr hszk).mono ?_
        rintro e w6 ⟨ff, ll, rfl, hbk, hff, hll, hb6⟩
        obtain rfl : ff = F k := by rw [HF.out]; show ff = bF _; rw [hbk]; rfl
        obtain rfl : ll = L k := by rw [HL.out]; show ll = bL _; rw [hbk]; rfl
        have HB : Hid (D0.atKey (kl (ss k)) zb = bk (F k) (L k)) := hbk
        clear hbk
        have RF6 := rowBelow RFr hb6 RFr.lt
        have RL6 := rowBelow RLr hb6 RLr.lt
        have c1 := RF6.cell hlt
        have c2 := RL6.cell hlt
        rw [if_neg (Nat.lt_irrefl k)] at c1 c2
        have f1 := RF6.frozen k
        have f2 := RL6.frozen k
        have HRF : Hid (w6.rowIs fb 2 n (fun j => if j < k then intV F j else .int .i64 0)) := RF6
        have HRL : Hid (w6.rowIs (fb + 1) 2 n (fun j => if j < k then intV L j else .int .i64 0)) := RL6
        clear RF6 RL6 RFr RLr RF RL
        go_wp2_with fail
        have B6 : Below fb w6 ((w6.setCell ⟨fb, k, none⟩ (.int .i64 (F k))).setCell ⟨fb + 1, k, none⟩ (.int .i64 (L k))) := ((Below.refl fb w6).setCell (Nat.le_refl _) _).setCell (Nat.le_succ _) _
        have hT6 := hTr.below hb6 hTr.lt hTr.own.lt
        have hTz := hT6.below B6 (by omega) (by omega)
        have C6 : ∀ j, j < n → w6.cell? ⟨w.heap.size, j, none⟩ = some (.string (ss j)) := fun j hj => (hb6.cell (cell_lt (Cr j hj))).trans (Cr j hj)
        have Cz : ∀ j, j < n → ((w6.setCell ⟨fb, k, none⟩ (.int .i64 (F k))).setCell ⟨fb + 1, k, none⟩ (.int .i64 (L k))).cell? ⟨w.heap.size, j, none⟩ = some (.string (ss j)) := fun j hj => (B6.cell (show w.heap.size < fb by omega)).trans (C6 j hj)
        go_roundw
        case rel =>
          refine ⟨k + 1, by go_num, by omega, (row_step HRF.out).setOther (show fb ≠ fb + 1 by omega) _, row_step (HRL.out.setOther (show fb + 1 ≠ fb by omega) _), fun j hj => ?_, hTz, Cz, (Br.trans (hb6.mono Br.size)).trans (B6.mono (by omega))⟩
          rcases Nat.lt_succ_iff_lt_or_eq.1 hj with h | rfl
          · exact HA.out j h
          · exact ⟨HB.out, hff, hll⟩
        case measure => simp [intOf]; omega
      · obtain rfl : n = k := by omega
        have RFn : wr.rowIs fb 2 n (intV F) := RFr.congr (fun i hi => if_pos hi)
        have RLn : wr.rowIs (fb + 1) 2 n (intV L) := RLr.congr (fun i hi => if_pos hi)
        have HA := (show Hid (∀ j, j < n → D0.atKey (kl (ss j)) zb = bk (F j) (L j) ∧ inB (F j) = true ∧ inB (L j) = true) from hat)
        clear hat RFr RLr RF RL hT5 C5 B5
        have hsz0 := hTr.own.size_le
        go_wp2_with fail
        refine (zzsweep_any tb mb n D0 pk now idle wr hTr (by omega) hn1 hn2 hp2).mono ?_
        rintro e w7 ⟨rfl, mb', n', D1, pk', hT7, hsw, hpk', hmb', hn', hK7⟩
        have HSW : Hid (Sw now idle D1 D0 (fun _ => false)) := hsw
        have HPK : Hid (pk' = if (size D1 : Int) < mx pk (size D0) / 2 then (size D1 : Int) else mx pk (size D0)) := hpk'
        clear hsw hpk'
        have hmk := run_makeMap43
        go_wp2_with fail
        have lt1 : fb + 1 < wr.heap.size := RLn.lt
        have RF7 : w7.rowIs fb 2 n (intV F) := RFn.of_block (hK7.block fb (by omega) (by omega))
        have RL7 : w7.rowIs (fb + 1) 2 n (intV L) := RLn.of_block (hK7.block (fb + 1) lt1 (by omega))
        have C7 : ∀ j, j < n → w7.cell? ⟨w.heap.size, j, none⟩ = some (.string (ss j)) := fun j hj => hK7.cell (Cr j hj) (by omega)
        have B7 : Below w.heap.size w w7 := Br.trans (hK7.below Br.size (fun i hi => by rcases hi with rfl | rfl <;> omega))
        have RF8 := RF7.alloc (.map #[] 0)
        have RL8 := RL7.alloc (.map #[] 0)
        have hT8 : Tier (w7.alloc (.map #[] 0)) tb mb' n' D1 pk' := hT7.kept (Below.heap_alloc _ _ _ hT7.lt) (Below.heap_alloc _ _ _ hT7.own.lt)
        have C8 : ∀ j, j < n → (w7.alloc (.map #[] 0)).cell? ⟨w.heap.size, j, none⟩ = some (.string (ss j)) := fun j hj => (World.cell?_of_block (w := w7) (Below.heap_alloc _ _ _ (cell_lt (C7 j hj)))).trans (C7 j hj)
        have B8 : Below w.heap.size w (w7.alloc (.map #[] 0)) := B7.alloc B7.size _
        have hS8 : (w7.alloc (.map #[] 0)).ownsMap Try.prog 9 (plainElem Try.prog 4) w7.heap.size 0 (.map [] : DataW Unit) := World.ownsMap_made w7 Try.prog 9 _
        have lt7 : fb + 1 < w7.heap.size := Nat.lt_of_lt_of_le lt1 hK7.size
        have ltm : mb' < w7.heap.size := hT7.own.lt
        generalize w7.alloc (.map #[] 0) = w8 at RF8 RL8 hT8 C8 B8 hS8 ⊢
        clear RF7 RL7 C7 B7 hT7 RFn RLn Cr Br hTr hK7 hmk
        generalize w7.heap.size = sb at hS8 lt7 ltm ⊢
        go_loopw [23, 24] (fun kp i wr => ∃ (k : Nat) (S E : DataW Unit), i = .int .i64 k ∧ k ≤ n ∧ kp = .int .i64 (size E) ∧ size E ≤ k ∧ wr.ownsMap Try.prog 9 (plainElem Try.prog 4) sb k S ∧ SeenOk S ∧
            SeenKeys ss S k ∧ Ghost S D1 E ∧ wr.rowIs fb 2 n (intV F) ∧ wr.rowIs (fb + 1) 2 n (intV L) ∧ Tier wr tb mb' n' D1 pk' ∧ (∀ j, j < n → wr.cell? ⟨w.heap.size, j, none⟩ = some (.string (ss j))) ∧ Below w.heap.size w wr)
          (fun _ i _ => n - (intOf i).toNat)
        case atStart => exact ⟨0, .map [], .map [], rfl, by omega, rfl, Nat.le_refl _, hS8, seen_start, keys_start ss, ghost_start D1, RF8, RL8, hT8, C8, B8⟩
        case round =>
          clear RF8 RL8 hT8 C8 B8 hS8
          obtain ⟨k, S, E, rfl, hk, rfl, hEk, hS, hSo, hSk, hG, RFr, RLr, hTr, Cr, Br⟩ := hrel
          by_cases hlt : k < n
          · have ck := Cr k hlt
            have cf := RFr.cell hlt
            have cl := RLr.cell hlt
            have hszk := hsz k (by omega)
            obtain ⟨hatk, hfk, hlk⟩ := HA.out k hlt
            have HAT : Hid (D0.atKey (kl (ss k)) zb = bk (F k) (L k)) := hatk
            clear hatk
            have hD : has D1 (kl (ss k)) = !deadB now idle (F k) (L k) := by
              rw [HSW.out.1, p1.out k hlt, HAT.out, deadD_bk]; simp
            obtain ⟨fb1, fb2⟩ : -1152921504606846976 ≤ F k ∧ F k ≤ 1152921504606846976 := of_decide_eq_true hfk
            obtain ⟨lb1, lb2⟩ : -1152921504606846976 ≤ L k ∧ L k ≤ 1152921504606846976 := of_decide_eq_true hlk
            obtain ⟨nb1, nb2⟩ : -1152921504606846976 ≤ now ∧ now ≤ 1152921504606846976 := of_decide_eq_true hn1
            obtain ⟨ib1, ib2⟩ : -1152921504606846976 ≤ idle ∧ idle ≤ 1152921504606846976 := of_decide_eq_true hn2
            have i0 : (k : Int) < (l0 : Int) := by omega
            have i1 : (k : Int) < (n : Int) := by omega
            unfold intV at cf cl
            cases hdd : deadB now idle (F k) (L k)
            · rw [hdd] at hD
              have d0 : ¬ (idle < now - L k ∧ F k ≤ now) := by
                intro h
                rw [show deadB now idle (F k) (L k) = true by unfold deadB; simp [h.1, h.2]] at hdd
                cases hdd
              clear hdd
              have hD : has D1 (kl (ss k)) = true := hD
              have hfin : ∀ gf gl, D1.atKey (kl (ss k)) zb = bk gf gl → gf = F k ∧ gl = L k := fun gf gl h => by
                rw [HSW.out.2 _ _ hD, HAT.out] at h
                have := bk_inj h
                exact ⟨this.1.symm, this.2.symm⟩
              have HFIN := (show Hid (∀ gf gl, D1.atKey (kl (ss k)) zb = bk gf gl → gf = F k ∧ gl = L k) from hfin)
              clear hfin
              by_cases d1 : L k + idle < now
              case' pos =>
                have d2 : ¬ F k ≤ now := fun h => d0 ⟨by omega, h⟩
                clear d0
                go_wp2_with fail
              case' neg =>
                clear d0
                go_wp2_with fail
              all_goals
               refine (get_any tb mb' n' D1 pk' (ss k) _ hTr hszk).mono ?_
               rintro e w9 ⟨gf, gl, rfl, hg, _, _, hb9⟩
               obtain ⟨rfl, rfl⟩ := HFIN.out _ _ hg
               clear hg
               have S9 := ownsMap_below hS hb9 hS.lt
               have RF9 := rowBelow RFr hb9 RFr.lt
               have RL9 := rowBelow RLr hb9 RLr.lt
               have T9 := hTr.below hb9 hTr.lt hTr.own.lt
               have C9 : ∀ j, j < n → w9.cell? ⟨w.heap.size, j, none⟩ = some (.string (ss j)) := fun j hj => (hb9.cell (cell_lt (Cr j hj))).trans (Cr j hj)
               have B9 := Br.trans (hb9.mono Br.size)
               have ck9 := C9 k hlt
               have cf9 := RF9.cell hlt
               have cl9 := RL9.cell hlt
               unfold intV at cf9 cl9
               have lk9 := seen_look S9 hSo hszk
               have isS := S9.isMap
               have h9 : sb < w9.heap.size := S9.lt
               have k9 : w.heap.size < w9.heap.size := cell_lt ck9
               have K9 : ∀ w10, w9.grownBy w10 (some sb) → w10.rowIs fb 2 n (intV F) ∧ w10.rowIs (fb + 1) 2 n (intV L) ∧ Tier w10 tb mb' n' D1 pk' ∧ (∀ j, j < n → w10.cell? ⟨w.heap.size, j, none⟩ = some (.string (ss j))) ∧ Below w.heap.size w w10 := fun w10 hg10 =>
                 ⟨RF9.of_block (hg10.block _ RF9.lt (fun e => by have := Option.some.inj e; omega)), RL9.of_block (hg10.block _ RL9.lt (fun e => by have := Option.some.inj e; omega)),
                   T9.kept (hg10.block _ T9.lt (fun e => by have := Option.some.inj e; omega)) (hg10.block _ T9.own.lt (fun e => by have := Option.some.inj e; omega)),
                   fun j hj => cell_turn hg10 (C9 j hj) (by omega), B9.grown hg10 B9.size (fun j hj => by cases hj; omega)⟩
               have KK := (show Hid (∀ w10, w9.grownBy w10 (some sb) → w10.rowIs fb 2 n (intV F) ∧ w10.rowIs (fb + 1) 2 n (intV L) ∧ Tier w10 tb mb' n' D1 pk' ∧ (∀ j, j < n → w10.cell? ⟨w.heap.size, j, none⟩ = some (.string (ss j))) ∧ Below w.heap.size w w10) from K9)
               clear K9 ck cf cl
               cases hse : has S (kl (ss k))
               · rw [hse] at lk9
                 go_wp2_with (first | (at_mapUpdate; refine wpList_mapUpdate_own _ rfl _ _ _ 43 rfl 9 4 law9 Try.underlying43 _ sb k S rfl S9 (by unfold maxLen; omega) _ _ _ rfl rfl (keyOf_kl hszk) _ [] (plainElem_bool Try.underlying4 true) ?_; intro w10 hS10 hg10) | go_in)
                 obtain ⟨r1, r2, r3, r4, r5⟩ := KK.out w10 hg10
                 go_wp2_with fail
                 go_roundw
                 case rel => exact ⟨k + 1, _, _, by go_num, by omega, val_int (by rw [(ghost_new hG isS (kl_key _) hse hD zb (.lit (.bool true))).2]; omega), by rw [(ghost_new hG isS (kl_key _) hse hD zb (.lit (.bool true))).2]; omega, hS10, seen_put hSo isS (kl_key _), keys_new hSk isS _, (ghost_new hG isS (kl_key _) hse hD zb (.lit (.bool true))).1, r1, r2, r3, r4, r5⟩
                 case measure => simp [intOf]; omega
               · rw [hse] at lk9
                 go_wp2_with fail
                 go_roundw
                 case rel => exact ⟨k + 1, S, E, by go_num, by omega, rfl, by omega, S9.mono (by omega), hSo, keys_again hSk hse, hG, RF9, RL9, T9, C9, B9⟩
                 case measure => simp [intOf]; omega
            · rw [hdd] at hD
              obtain ⟨d1, d2⟩ : idle < now - L k ∧ F k ≤ now := by
                unfold deadB at hdd; rw [Bool.and_eq_true] at hdd; exact ⟨of_decide_eq_true hdd.1, of_decide_eq_true hdd.2⟩
              clear hdd
              have hD : has D1 (kl (ss k)) = false := hD
              have d3 : L k + idle < now := by omega
              go_wp2_with fail
              refine (get_any tb mb' n' D1 pk' (ss k) _ hTr hszk).mono ?_
              rintro e w9 ⟨gf, gl, rfl, hg, _, _, hb9⟩
              clear hg
              have S9 := ownsMap_below hS hb9 hS.lt
              have RF9 := rowBelow RFr hb9 RFr.lt
              have RL9 := rowBelow RLr hb9 RLr.lt
              have T9 := hTr.below hb9 hTr.lt hTr.own.lt
              have C9 : ∀ j, j < n → w9.cell? ⟨w.heap.size, j, none⟩ = some (.string (ss j)) := fun j hj => (hb9.cell (cell_lt (Cr j hj))).trans (Cr j hj)
              have B9 := Br.trans (hb9.mono Br.size)
              have ck9 := C9 k hlt
              have cf9 := RF9.cell hlt
              have cl9 := RL9.cell hlt
              unfold intV at cf9 cl9
              have lk9 := seen_look S9 hSo hszk
              have isS := S9.isMap
              have h9 : sb < w9.heap.size := S9.lt
              have k9 : w.heap.size < w9.heap.size := cell_lt ck9
              have K9 : ∀ w10, w9.grownBy w10 (some sb) → w10.rowIs fb 2 n (intV F) ∧ w10.rowIs (fb + 1) 2 n (intV L) ∧ Tier w10 tb mb' n' D1 pk' ∧ (∀ j, j < n → w10.cell? ⟨w.heap.size, j, none⟩ = some (.string (ss j))) ∧ Below w.heap.size w w10 := fun w10 hg10 =>
                ⟨RF9.of_block (hg10.block _ RF9.lt (fun e => by have := Option.some.inj e; omega)), RL9.of_block (hg10.block _ RL9.lt (fun e => by have := Option.some.inj e; omega)),
                  T9.kept (hg10.block _ T9.lt (fun e => by have := Option.some.inj e; omega)) (hg10.block _ T9.own.lt (fun e => by have := Option.some.inj e; omega)),
                  fun j hj => cell_turn hg10 (C9 j hj) (by omega), B9.grown hg10 B9.size (fun j hj => by cases hj; omega)⟩
              have KK := (show Hid (∀ w10, w9.grownBy w10 (some sb) → w10.rowIs fb 2 n (intV F) ∧ w10.rowIs (fb + 1) 2 n (intV L) ∧ Tier w10 tb mb' n' D1 pk' ∧ (∀ j, j < n → w10.cell? ⟨w.heap.size, j, none⟩ = some (.string (ss j))) ∧ Below w.heap.size w w10) from K9)
              clear K9 ck cf cl
              cases hse : has S (kl (ss k))
              · rw [hse] at lk9
                go_wp2_with (first | (at_mapUpdate; refine wpList_mapUpdate_own _ rfl _ _ _ 43 rfl 9 4 law9 Try.underlying43 _ sb k S rfl S9 (by unfold maxLen; omega) _ _ _ rfl rfl (keyOf_kl hszk) _ [] (plainElem_bool Try.underlying4 true) ?_; intro w10 hS10 hg10) | go_in)
                obtain ⟨r1, r2, r3, r4, r5⟩ := KK.out w10 hg10
                go_wp2_with fail
                go_roundw
                case rel => exact ⟨k + 1, _, E, by go_num, by omega, rfl, by omega, hS10, seen_put hSo isS (kl_key _), keys_new hSk isS _, ghost_gone hG isS (kl_key _) hD _, r1, r2, r3, r4, r5⟩
                case measure => simp [intOf]; omega
              · rw [hse] at lk9
                go_wp2_with fail
                go_roundw
                case rel => exact ⟨k + 1, S, E, by go_num, by omega, rfl, by omega, S9.mono (by omega), hSo, keys_again hSk hse, hG, RF9, RL9, T9, C9, B9⟩
                case measure => simp [intOf]; omega
          · obtain rfl : n = k := by omega
            have hE : size E = size D1 := size_eq_of_has _ rfl hG.tidy (hTr.own.tidy law9) hG.keys (fun es he => by obtain ⟨es', he', _, hk'⟩ := hTr.own.entries law9; rw [he'] at he; cases he; exact hk') (fun x => by
              rw [hG.has]
              cases hx : has D1 x
              · simp
              · have h0 : has D0 x = true := by
                  have := HSW.out.1 x
                  rw [hx] at this
                  cases h : has D0 x
                  · rw [h] at this; simp at this
                  · rfl
                rw [(hSk x).2 (p2.out x h0)]; rfl)
            clear hS hSo hSk hG RFr RLr Cr
            have hE2 : (size D1 : Int) ≤ 65536 := by omega
            rcases (show (pk < (size D0 : Int) ∧ mx pk (size D0) = (size D0 : Int)) ∨ ((size D0 : Int) ≤ pk ∧ mx pk (size D0) = pk) from by
                by_cases c : pk < (size D0 : Int)
                · exact Or.inl ⟨c, if_pos c⟩
                · exact Or.inr ⟨by omega, if_neg c⟩) with ⟨c1, em⟩ | ⟨c1, em⟩
            all_goals
              by_cases c2 : (size D1 : Int) < mx pk (size D0) / 2
              all_goals
                have e := HPK.out
                first | rw [if_pos c2] at e | rw [if_neg c2, em] at e
                rw [em] at c2
                subst e
                clear em HPK
                first
                | (exfalso; omega)
                | (go_wp2_with fail
                   refine (len_any tb mb' n' D1 _ wr hTr).mono ?_
                   rintro e w' ⟨rfl, hw⟩
                   obtain rfl : wr = w' := hw.symm
                   clear hw
                   go_wp2_with fail
                   refine (peak_any tb mb' n' D1 _ wr hTr).mono ?_
                   rintro e w' ⟨rfl, hw⟩
                   obtain rfl : wr = w' := hw.symm
                   clear hw
                   go_wp2_with fail
                   go_ret
                   exact ⟨rfl, Br⟩)
end Go.Proofs.Qxb6603706a
