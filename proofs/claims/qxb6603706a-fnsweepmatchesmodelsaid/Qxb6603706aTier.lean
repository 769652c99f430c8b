/-
  CONTRACTS of ZZNewTier, ZZTierPut, zzb1Build, ZZTierLen, ZZTierGet, ZZTierPeak: a tier is a block of five cells, the fourth a map of buckets, the fifth the peak.
-/
import Derived.Test.Qxb6603706aSmalls
import Derived.Maps.RangeWalk
import Derived.Maps.Ext
import Derived.Deep.RegionWith
import Derived.Deep.RegionHeld3
namespace Go.Proofs.Qxb6603706a
open Go.RowKit Go.Maps
set_option linter.unusedVariables false

/-! ### the elements: two instants in bounds -/
def bk (f l : Int) : DataW Unit := .agg [.lit (.int .i64 f), .lit (.int .i64 l)]
def bkOf : List Value → Option (DataW Unit × List MemPlace)
  | [.int .i64 f, .int .i64 l] => if inB f && inB l then some (bk f l, []) else none
  | _ => none
def bkElem : Value → Option (DataW Unit × List MemPlace)
  | .agg cs => bkOf cs.toList
  | _ => none
theorem bkElem_mk {f l : Int} (hf : inB f = true) (hl : inB l = true) : bkElem (.agg #[.int .i64 f, .int .i64 l]) = some (bk f l, []) := by
  simp [bkElem, bkOf, hf, hl]
theorem bkElem_inv {v : Value} {y : DataW Unit × List MemPlace} (h : bkElem v = some y) : ∃ f l, v = .agg #[.int .i64 f, .int .i64 l] ∧ y = (bk f l, []) ∧ inB f = true ∧ inB l = true := by
  unfold bkElem at h
  split at h
  · rename_i cs
    obtain ⟨cs⟩ := cs
    simp only at h
    unfold bkOf at h
    split at h
    · split at h
      · rename_i hc
        cases h
        rw [Bool.and_eq_true] at hc
        exact ⟨_, _, rfl, rfl, hc.1, hc.2⟩
      · cases h
    · cases h
  · cases h
theorem bk_inj {f l f' l' : Int} (h : bk f l = bk f' l') : f = f' ∧ l = l' := by
  unfold bk at h
  simp at h
  exact h

theorem law9 : Keyed Try.prog 9 := string_keyed Try.underlying9
theorem zero45 (w : World) : (zeroValue 45).run Try.prog w = .ok (.agg #[.int .i64 0, .int .i64 0]) w := by kernel_rfl
/-- a key as it is read -/
def kl (s : ByteArray) : Lit := .string s.data.toList
theorem keyOf_kl {s : ByteArray} (hs : s.size ≤ maxLen) : keyOf Try.prog 9 (.string s) = some (kl s) := WideMaps.keyOf_string_mk Try.underlying9 hs

structure Tier (w : World) (tb b n : Nat) (D : DataW Unit) (pk : Int) : Prop where
  cm : w.cell? ⟨tb, 3, none⟩ = some (.map (some b))
  cp : w.cell? ⟨tb, 4, none⟩ = some (.int .i64 pk)
  fm : w.frozen? ⟨tb, 3, none⟩ = false
  fp : w.frozen? ⟨tb, 4, none⟩ = false
  own : w.ownsMap Try.prog 9 bkElem b n D
theorem Tier.ne {w : World} {tb b n : Nat} {D : DataW Unit} {pk : Int} (h : Tier w tb b n D pk) : tb ≠ b := by
  intro e
  subst e
  obtain ⟨es, clock, hb, _⟩ := h.own
  have := h.cm
  simp [World.cell?, hb] at this
theorem Tier.lt {w : World} {tb b n : Nat} {D : DataW Unit} {pk : Int} (h : Tier w tb b n D pk) : tb < w.heap.size := cell_lt h.cm
/-- while the map alone turns -/
theorem Tier.turn {w w' : World} {tb b n n' : Nat} {D D' : DataW Unit} {pk : Int} (h : Tier w tb b n D pk) (ho : w'.ownsMap Try.prog 9 bkElem b n' D') (hg : w.grownBy w' (some b)) : Tier w' tb b n' D' pk := by
  have hblk : w'.heap[tb]? = w.heap[tb]? := hg.block tb h.lt (fun e => h.ne (Option.some.inj e))
  exact ⟨(World.cell?_of_block (w := w) hblk).trans h.cm, (World.cell?_of_block (w := w) hblk).trans h.cp, (World.frozen?_of_block (w := w) hblk).trans h.fm, (World.frozen?_of_block (w := w) hblk).trans h.fp, ho⟩
/-- while neither of the two blocks turns -/
theorem Tier.kept {w w' : World} {tb b n : Nat} {D : DataW Unit} {pk : Int} (h : Tier w tb b n D pk) (h1 : w'.heap[tb]? = w.heap[tb]?) (h2 : w'.heap[b]? = w.heap[b]?) : Tier w' tb b n D pk := by
  refine ⟨(World.cell?_of_block (w := w) h1).trans h.cm, (World.cell?_of_block (w := w) h1).trans h.cp, (World.frozen?_of_block (w := w) h1).trans h.fm, (World.frozen?_of_block (w := w) h1).trans h.fp, ?_⟩
  obtain ⟨es, clock, hb, r⟩ := h.own
  exact ⟨es, clock, h2.trans hb, r⟩
theorem Tier.below {w w' : World} {tb b n B : Nat} {D : DataW Unit} {pk : Int} (h : Tier w tb b n D pk) (hb : Below B w w') (h1 : tb < B) (h2 : b < B) : Tier w' tb b n D pk := h.kept (hb.block _ h1) (hb.block _ h2)

/-! ### the contracts -/
theorem newTier_any (pk : Int) (w : World) : Calls Try.prog 24 #[.int .i64 1, .int .i64 0, .int .i64 pk] w fun e w' =>
    e = .returned (.pointer (some ⟨w.heap.size + 1, 0, none⟩)) ∧ Tier w' (w.heap.size + 1) w.heap.size 0 (.map []) pk ∧ Below w.heap.size w w' := by
  have hmm := @run_makeMap Try.prog
  go_enter Try.func24, Try.ntmps24
  go_wp2
  go_ret
  refine ⟨rfl, ⟨by simp [go_sem], by simp [go_sem], by simp [go_sem], by simp [go_sem], (World.ownsMap_made _ _ _ _).alloc _⟩, ((Below.refl _ _).alloc (Nat.le_refl _) _).alloc (by simp) _⟩

theorem put_any (tb b n : Nat) (D : DataW Unit) (pk : Int) (s : ByteArray) (f l : Int) (w : World) (hT : Tier w tb b n D pk) (hn : n < maxLen) (hs : s.size ≤ maxLen) (hf : inB f = true) (hl : inB l = true) :
    Calls Try.prog 25 #[.pointer (some ⟨tb, 0, none⟩), .string s, .int .i64 f, .int .i64 l] w fun e w' =>
      e = .returned (.tuple #[]) ∧ w'.ownsMap Try.prog 9 bkElem b (n + 1) (D.put (kl s) (bk f l)) ∧ w.grownBy w' (some b) := by
  have hcm := hT.cm
  have hown := hT.own
  go_enter Try.func25, Try.ntmps25
  go_wp2_with (first
    | (at_mapUpdate; refine wpList_mapUpdate_own _ rfl _ _ _ 53 rfl 9 45 law9 Try.underlying53 _ b n D rfl hown hn _ _ _ rfl rfl (keyOf_kl hs) _ [] (bkElem_mk hf hl) ?_; intro w1 hown1 hg1; go_frame)
    | go_in)
  go_end0
  exact ⟨rfl, hown1, hg1⟩

theorem len_any (tb b n : Nat) (D : DataW Unit) (pk : Int) (w : World) (hT : Tier w tb b n D pk) : Calls Try.prog 18 #[.pointer (some ⟨tb, 0, none⟩)] w fun e w' => e = .returned (.int .i64 (Maps.size D)) ∧ w' = w := by
  have hcm := hT.cm
  have hown := hT.own
  go_enter Try.func18, Try.ntmps18
  go_wp2_with (first
    | (at_len; refine wpList_len_own _ rfl _ 53 rfl 9 45 Try.underlying53 _ b n D rfl hown ?_)
    | go_in)
  go_ret
  exact ⟨rfl, rfl⟩

theorem peak_any (tb b n : Nat) (D : DataW Unit) (pk : Int) (w : World) (hT : Tier w tb b n D pk) : Calls Try.prog 21 #[.pointer (some ⟨tb, 0, none⟩)] w fun e w' => e = .returned (.int .i64 pk) ∧ w' = w := by
  have hcp := hT.cp
  go_enter Try.func21, Try.ntmps21
  go_wp2
  go_ret
  exact ⟨rfl, rfl⟩

/-- the zero bucket -/
def zb : DataW Unit := bk 0 0
theorem zb_elem : bkElem (.agg #[.int .i64 0, .int .i64 0]) = some (zb, []) := bkElem_mk (by decide) (by decide)
theorem get_any (tb b n : Nat) (D : DataW Unit) (pk : Int) (s : ByteArray) (w : World) (hT : Tier w tb b n D pk) (hs : s.size ≤ maxLen) :
    Calls Try.prog 19 #[.pointer (some ⟨tb, 0, none⟩), .string s] w fun e w' => ∃ f l, e = .returned (.tuple #[.int .i64 f, .int .i64 l, .bool (Maps.has D (kl s))]) ∧ D.atKey (kl s) zb = bk f l ∧ inB f = true ∧ inB l = true ∧ Below w.heap.size w w' := by
  have hcm := hT.cm
  have hown := hT.own
  obtain ⟨v, ps, hrun, hv⟩ := hown.look_ok law9 Try.underlying53 (zero45 w) zb_elem (keyOf_kl hs)
  obtain ⟨f, l, rfl, hy, hf, hl⟩ := bkElem_inv hv
  have HY : Hid (D.atKey (kl s) zb = bk f l) := congrArg Prod.fst hy
  clear hy hv hown hT
  go_enter Try.func19, Try.ntmps19
  go_wp2
  go_quiet (fail)
  go_wp2
  exact bodyPost_ret (v := .tuple #[.int .i64 f, .int .i64 l, .bool (Maps.has D (kl s))]) (by simp [results, Try.results19, go_sem]) rfl ⟨f, l, rfl, HY.out, hf, hl, below_drewN ((Below.refl _ _).alloc (Nat.le_refl _) _) _⟩

theorem Tier.drew {w : World} {tb b n : Nat} {D : DataW Unit} {pk : Int} (h : Tier w tb b n D pk) : Tier w.drew tb b n D pk := ⟨h.cm, h.cp, h.fm, h.fp, h.own⟩
theorem Tier.drewN {w : World} {tb b n : Nat} {D : DataW Unit} {pk : Int} (h : Tier w tb b n D pk) (k : Nat) : Tier (w.drewN k) tb b n D pk := ⟨h.cm, h.cp, h.fm, h.fp, h.own⟩
theorem cell_turn {w w' : World} {r b o : Nat} {v : Value} (hg : w.grownBy w' (some r)) (h : w.cell? ⟨b, o, none⟩ = some v) (hne : b ≠ r) : w'.cell? ⟨b, o, none⟩ = some v :=
  (World.cell?_of_block (w := w) (hg.block b (cell_lt h) (fun e => hne (Option.some.inj e)))).trans h
/-- the map after k pairs -/
def bld (ss : Nat → ByteArray) (f l : Nat → Int) : Nat → DataW Unit
  | 0 => .map []
  | k + 1 => (bld ss f l k).put (kl (ss k)) (bk (f k) (l k))
theorem build_any (a0 a1 a2 : Option Addr) (l0 l1 l2 c0 c1 c2 n : Nat) (pk : Int) (ss : Nat → ByteArray) (f l : Nat → Int) (w : World) (hn : n ≤ 65536) (hn0 : n ≤ l0) (hn1 : n ≤ l1) (hn2 : n ≤ l2)
    (h0 : l0 ≤ 65536) (h1 : l1 ≤ 65536) (h2 : l2 ≤ 65536)
    (hs0 : Sl w a0 l0 (strV ss)) (hs1 : Sl w a1 l1 (intV f)) (hs2 : Sl w a2 l2 (intV l)) (hsz : ∀ j, j < n → (ss j).size ≤ maxLen) (hin : ∀ j, j < n → inB (f j) = true ∧ inB (l j) = true) :
    Calls Try.prog 17 #[.slice a0 l0 c0, .slice a1 l1 c1, .slice a2 l2 c2, .int .i64 n, .int .i64 pk] w fun e w' =>
      e = .returned (.pointer (some ⟨w.heap.size + 1, 0, none⟩)) ∧ Tier w' (w.heap.size + 1) w.heap.size n (bld ss f l n) pk ∧ Below w.heap.size w w' := by
  rcases Nat.eq_zero_or_pos n with rfl | hpos
  · go_enter Try.func17, Try.ntmps17
    go_wp2_with (go_at_call 24; refine (newTier_any pk _).mono ?_; rintro e w1 ⟨rfl, hT, hb⟩)
    go_loop [12] (fun i => i = .int .i64 0) (fun i => 0)
    case atStart => exact rfl
    case round =>
      obtain rfl := hrel
      go_wp2
      go_ret
      exact ⟨rfl, hT, hb⟩
  · obtain ⟨b0, o0, rfl, hc0⟩ := hs0 (by omega)
    obtain ⟨b1, o1, rfl, hc1⟩ := hs1 (by omega)
    obtain ⟨b2, o2, rfl, hc2⟩ := hs2 (by omega)
    unfold strV at hc0
    unfold intV at hc1 hc2
    go_enter Try.func17, Try.ntmps17
    go_wp2_with (go_at_call 24; refine (newTier_any pk _).mono ?_; rintro e w1 ⟨rfl, hT, hb⟩)
    go_loopw [12] (fun i wr => ∃ k : Nat, i = .int .i64 k ∧ k ≤ n ∧ Tier wr (w.heap.size + 1) w.heap.size k (bld ss f l k) pk ∧ Below w.heap.size w wr) (fun i _ => n - (intOf i).toNat)
    case atStart => exact ⟨0, rfl, by omega, hT, hb⟩
    case round =>
      obtain ⟨k, rfl, hk, hTr, hbr⟩ := hrel
      by_cases hlt : k < n
      · have e0 := (hbr.cell (cell_lt (hc0 k (by omega)))).trans (hc0 k (by omega))
        have e1 := (hbr.cell (cell_lt (hc1 k (by omega)))).trans (hc1 k (by omega))
        have e2 := (hbr.cell (cell_lt (hc2 k (by omega)))).trans (hc2 k (by omega))
        have t0 := cell_lt (hc0 k (by omega))
        have t1 := cell_lt (hc1 k (by omega))
        have t2 := cell_lt (hc2 k (by omega))
        have hik := hin k hlt
        have hszk := hsz k hlt
        have i0 : (k : Int) < (l0 : Int) := by omega
        have i1 : (k : Int) < (l1 : Int) := by omega
        have i2 : (k : Int) < (l2 : Int) := by omega
        have i3 : (k : Int) < (n : Int) := by omega
        clear hc0 hc1 hc2 hin hsz hT hb hs0 hs1 hs2
        go_wp2
        go_region_held3 (fun w' => w'.cell? ⟨b0, o0 + k, none⟩ = some (.string (ss k)) ∧ w'.cell? ⟨b1, o1 + k, none⟩ = some (.int .i64 (f k)) ∧ w'.cell? ⟨b2, o2 + k, none⟩ = some (.int .i64 (l k))) (first | exact ⟨by assumption, by assumption, by assumption⟩ | simp [go_sem, e0, e1, e2])
          (first
            | (go_at_call 25; refine (put_any (w.heap.size + 1) w.heap.size k (bld ss f l k) pk (ss k) (f k) (l k) _ ?_ (by unfold maxLen; omega) hszk hik.1 hik.2).mono ?_; (first | exact hTr.drew | exact hTr | exact hTr.drewN _); rintro e w2 ⟨rfl, ho, hg⟩; have k0 := cell_turn hg e0 (Nat.ne_of_lt t0); have k1 := cell_turn hg e1 (Nat.ne_of_lt t1); have k2 := cell_turn hg e2 (Nat.ne_of_lt t2)))
        go_wp2
        go_roundw
        case rel => exact ⟨k + 1, by go_num, by omega, hTr.drew.turn ho hg, hbr.drew.grown hg hbr.size (fun j hj => by cases hj; exact Nat.le_refl _)⟩
        case measure => simp [intOf]; omega
      · go_wp2
        go_ret
        obtain rfl : k = n := by omega
        exact ⟨rfl, hTr, hbr⟩
end Go.Proofs.Qxb6603706a
