/-
  THE CONTRACT of (*tier).sweep: which keys go, what stays, the peak.
-/
import Derived.Test.Qxb6603706aTier
namespace Go.Proofs.Qxb6603706a
open Go.RowKit Go.Maps
set_option linter.unusedVariables false

/-- is a bucket forgotten at now? -/
def deadB (now idle f l : Int) : Bool := decide (idle < now - l) && decide (f ≤ now)
def deadD (now idle : Int) : DataW Unit → Bool
  | .agg [.lit (.int _ f), .lit (.int _ l)] => deadB now idle f l
  | _ => false
theorem deadD_bk (now idle f l : Int) : deadD now idle (bk f l) = deadB now idle f l := rfl

/-- D is D0 less those of its dead entries that have come -/
def Sw (now idle : Int) (D D0 : DataW Unit) (left : Lit → Bool) : Prop :=
  (∀ x, has D x = (has D0 x && (left x || !deadD now idle (D0.atKey x zb)))) ∧ ∀ x z, has D x = true → D.atKey x z = D0.atKey x z
theorem sw_start (now idle : Int) (D0 : DataW Unit) : Sw now idle D0 D0 (has D0) := ⟨fun x => by cases has D0 x <;> simp, fun _ _ _ => rfl⟩
theorem sw_has {now idle : Int} {D D0 : DataW Unit} {left : Lit → Bool} {k : Lit} {d : DataW Unit} (h : Sw now idle D D0 left) (hat : ∀ z, D.atKey k z = d) : has D k = true ∧ has D0 k = true ∧ D0.atKey k zb = d := by
  have h1 : has D k = true := has_true_of_atKey hat
  refine ⟨h1, ?_, ?_⟩
  · have := h.1 k
    rw [h1] at this
    cases h2 : has D0 k
    · rw [h2] at this; simp at this
    · rfl
  · rw [← h.2 k zb h1, hat]
theorem sw_struck {now idle : Int} {D D0 : DataW Unit} {left : Lit → Bool} {k : Lit} {d : DataW Unit} (h : Sw now idle D D0 left) (hk : WideAt.IsKeyLit k) (hat : ∀ z, D.atKey k z = d) (hd : deadD now idle d = true) :
    Sw now idle (D.del k) D0 (fun x => left x && !x.sameKey k) := by
  obtain ⟨h1, h2, h3⟩ := sw_has h hat
  refine ⟨fun x => ?_, fun x z hx => ?_⟩
  · by_cases e : x = k
    · subst e
      show has (D.del x) x = (has D0 x && ((left x && !x.sameKey x) || !deadD now idle (D0.atKey x zb)))
      rw [has_del_same, WideAt.sameKey_self hk, h3, hd]
      simp
    · show has (D.del k) x = (has D0 x && ((left x && !x.sameKey k) || !deadD now idle (D0.atKey x zb)))
      rw [has_del_other e, sameKey_ne e, h.1 x]
      simp
  · by_cases e : x = k
    · subst e
      rw [has_del_same] at hx
      cases hx
    · rw [has_del_other e] at hx
      rw [atKey_del_other e, h.2 x z hx]
theorem sw_stays {now idle : Int} {D D0 : DataW Unit} {left : Lit → Bool} {k : Lit} {d : DataW Unit} (h : Sw now idle D D0 left) (hk : WideAt.IsKeyLit k) (hat : ∀ z, D.atKey k z = d) (hd : deadD now idle d = false) :
    Sw now idle D D0 (fun x => left x && !x.sameKey k) := by
  obtain ⟨h1, h2, h3⟩ := sw_has h hat
  refine ⟨fun x => ?_, h.2⟩
  by_cases e : x = k
  · subst e
    show has D x = (has D0 x && ((left x && !x.sameKey x) || !deadD now idle (D0.atKey x zb)))
    rw [h1, h2, WideAt.sameKey_self hk, h3, hd]
    simp
  · show has D x = (has D0 x && ((left x && !x.sameKey k) || !deadD now idle (D0.atKey x zb)))
    rw [sameKey_ne e, h.1 x]
    simp

/-- max -/
def mx (a b : Int) : Int := if a < b then b else a

/-- w' is w but for the blocks of S and new ones -/
structure Kp (S : Nat → Prop) (w w' : World) : Prop where
  os : w'.os = w.os
  tape : w'.tape = w.tape
  output : w'.output = w.output
  size : w.heap.size ≤ w'.heap.size
  block : ∀ i, i < w.heap.size → ¬ S i → w'.heap[i]? = w.heap[i]?
theorem Kp.refl (S : Nat → Prop) (w : World) : Kp S w w := ⟨rfl, rfl, rfl, Nat.le_refl _, fun _ _ _ => rfl⟩
theorem Kp.trans {S : Nat → Prop} {a b c : World} (h : Kp S a b) (k : Kp S b c) : Kp S a c :=
  ⟨k.os.trans h.os, k.tape.trans h.tape, k.output.trans h.output, Nat.le_trans h.size k.size, fun i hi hs => (k.block i (Nat.lt_of_lt_of_le hi h.size) hs).trans (h.block i hi hs)⟩
theorem Kp.drew {S : Nat → Prop} {a b : World} (h : Kp S a b) : Kp S a b.drew := ⟨h.os, h.tape, h.output, h.size, h.block⟩
theorem Kp.drewN {S : Nat → Prop} {a b : World} (h : Kp S a b) (n : Nat) : Kp S a (b.drewN n) := h.trans ⟨rfl, rfl, rfl, Nat.le_refl _, fun _ _ _ => rfl⟩
theorem Kp.alloc {S : Nat → Prop} {a b : World} (h : Kp S a b) (o : Obj) : Kp S a (b.alloc o) :=
  h.trans ⟨rfl, rfl, rfl, by simp, fun i hi _ => Below.heap_alloc b o i hi⟩
theorem Kp.setCell {S : Nat → Prop} {a b : World} (h : Kp S a b) {p : Addr} (hp : S p.block ∨ a.heap.size ≤ p.block) (v : Value) : Kp S a (b.setCell p v) :=
  ⟨h.os, h.tape, h.output, Nat.le_trans h.size (by simp [World.setCell]), fun i hi hs => (Below.heap_setCell b p v i (fun e => by subst e; rcases hp with h1 | h1; exact hs h1; omega)).trans (h.block i hi hs)⟩
theorem Kp.grown {S : Nat → Prop} {a b c : World} {row : Option Nat} (h : Kp S a b) (hg : b.grownBy c row) (hr : ∀ j, row = some j → S j ∨ a.heap.size ≤ j) : Kp S a c :=
  ⟨hg.os.trans h.os, hg.tape.trans h.tape, hg.output.trans h.output, Nat.le_trans h.size hg.size, fun i hi hs =>
    (hg.block i (Nat.lt_of_lt_of_le hi h.size) (fun e => by rcases hr i e.symm with h1 | h1; exact hs h1; omega)).trans (h.block i hi hs)⟩
theorem Kp.cell {S : Nat → Prop} {w w' : World} (h : Kp S w w') {b o : Nat} {v : Value} (hc : w.cell? ⟨b, o, none⟩ = some v) (hs : ¬ S b) : w'.cell? ⟨b, o, none⟩ = some v :=
  (World.cell?_of_block (w := w) (h.block b (cell_lt hc) hs)).trans hc
theorem Kp.below {S : Nat → Prop} {w w' : World} {B : Nat} (h : Kp S w w') (hB : B ≤ w.heap.size) (hs : ∀ i, S i → B ≤ i) : Below B w w' :=
  ⟨h.os, h.tape, h.output, h.size, fun k hk => h.block k (by omega) (fun e => by have := hs k e; omega)⟩

/-- the step of a range over the buckets -/
theorem wpList_next_sb (w : World) {ops : Array Oper} {rest : List Oper} {o : Oper} {a : Act} {Q : Exit → Act → World → Prop} (hg : o.guard = none) (it : Operand) (hop : o.op = Op.next it false)
    (b r n : Nat) (D : DataW Unit) (left : Lit → Bool) (cnt : Nat) (hit : a.eval it = .pointer (some ⟨r, 0, none⟩)) (h : w.ranges Try.prog 9 bkElem b r n D left cnt)
    (hDone : cnt = 0 → (∀ kl, left kl = false) → wpList Try.prog ops Q rest (a.put o.dst (.tuple #[.bool false])) w)
    (hMore : ∀ (s : ByteArray) (f l : Int) (w' : World) (cnt' : Nat), s.size ≤ maxLen → inB f = true → inB l = true → (∀ zd, D.atKey (kl s) zd = bk f l) → w'.ranges Try.prog 9 bkElem b r n D (fun z => left z && !z.sameKey (kl s)) cnt' → cnt' < cnt →
      w.grownBy w' (some r) → w'.heap.size = w.heap.size → (Instr.entry (.pointer (some ⟨r, 0, none⟩))).run Try.prog w' = .ok (.tuple #[.string s, .agg #[.int .i64 f, .int .i64 l]]) w' →
      wpList Try.prog ops Q rest (a.put o.dst (.tuple #[.bool true, .string s, .agg #[.int .i64 f, .int .i64 l]])) w') :
    wpList Try.prog ops Q (o :: rest) a w :=
  wpList_next_ranges w hg it hop 9 law9 bkElem Value.string (fun (c : Int × Int) => .agg #[.int .i64 c.1, .int .i64 c.2])
    (fun key k hk => by obtain ⟨s, rfl, _⟩ := WideMaps.string_of_keyOf Try.underlying9 hk; exact ⟨s, rfl⟩)
    (fun v y hv => by obtain ⟨f, l, rfl, _⟩ := bkElem_inv hv; exact ⟨(f, l), rfl⟩)
    b r n D left cnt hit h hDone (fun s c k y w' cnt' hkey hlk hv hat hrg hlt hgr hsz hen => by
      obtain ⟨s', es, rfl, hss⟩ := WideMaps.string_of_keyOf Try.underlying9 hkey
      cases es
      obtain ⟨f, l, ev, rfl, hf, hl⟩ := bkElem_inv hv
      simp at ev
      obtain ⟨e1, e2⟩ := ev
      subst e1 e2
      exact hMore s c.1 c.2 w' cnt' hss hf hl hat hrg hlt hgr hsz hen)

theorem run_makeMap_hint (x : Int) (w : World) : (Instr.makeMap 53 (some (.int .i64 x))).run Try.prog w = .ok (.map (some w.heap.size)) (w.alloc (.map #[] 0)) := by
  simp [Instr.makeMap, run_underlying Try.underlying53, asInt, asIntOf, Result.andThen]

theorem tier_stored {w : World} {tb b n m n' : Nat} {D D' : DataW Unit} {p : Int} (hT : Tier w tb b n D p) (ho : w.ownsMap Try.prog 9 bkElem m n' D') (hne : m ≠ tb) (v : Int) :
    Tier ((w.setCell ⟨tb, 3, none⟩ (.map (some m))).setCell ⟨tb, 4, none⟩ (.int .i64 v)) tb m n' D' v := by
  have h1 := hT.cm
  have h2 := hT.cp
  have h3 := hT.fm
  have h4 := hT.fp
  exact ⟨by simp [go_sem, h1], by simp [go_sem, h2], by simp [go_sem, h3], by simp [go_sem, h4], (ho.setCell hne _).setCell hne _⟩

/-- what sweep leaves -/
def Swept (now idle : Int) (tb b n : Nat) (D0 : DataW Unit) (p : Int) (w w' : World) : Prop :=
  ∃ b' n' D1 pk', Tier w' tb b' n' D1 pk' ∧ Sw now idle D1 D0 (fun _ => false) ∧ pk' = (if (size D1 : Int) < p / 2 then (size D1 : Int) else p) ∧ (b' = b ∨ w.heap.size ≤ b') ∧ n' ≤ n ∧ Kp (fun i => i = tb ∨ i = b) w w'

theorem sw_none {now idle : Int} {D D0 : DataW Unit} {left : Lit → Bool} (h : Sw now idle D D0 left) (hl : ∀ x, left x = false) : Sw now idle D D0 (fun _ => false) := by
  have : left = fun _ => false := funext hl
  rw [← this]; exact h

set_option maxRecDepth 100000 in
set_option maxHeartbeats 2000000 in
theorem sweep_any (tb b n : Nat) (D0 : DataW Unit) (pk now idle : Int) (w : World) (hT : Tier w tb b n D0 pk) (hn : n ≤ 65536) (n1 : inB now = true) (n2 : inB idle = true) (hpm : pk ≤ 9223372036854775807) :
    Calls Try.prog 26 #[.pointer (some ⟨tb, 0, none⟩), .int .i64 now, .int .i64 idle] w fun e w' => e = .returned (.tuple #[]) ∧ Swept now idle tb b n D0 (mx pk (size D0)) w w' := by
  have hszn := hT.own.size_le
  have hcm := hT.cm
  have hcp := hT.cp
  have hfp := hT.fp
  have hl0 : ∀ ty, (Builtin.len_ #[53] ty #[.map (some b)]).run Try.prog w.drew = .ok (.int .i64 (Maps.size D0)) w.drew := fun ty => hT.drew.own.len Try.underlying53 ty
  have hl1 : ∀ ty, (Builtin.len_ #[53] ty #[.map (some b)]).run Try.prog w = .ok (.int .i64 (Maps.size D0)) w := fun ty => hT.own.len Try.underlying53 ty
  obtain ⟨p, hp⟩ : ∃ p, mx pk (size D0) = p := ⟨_, rfl⟩
  rw [hp]
  have hstore : ∀ v : Int, Tier (w.setCell ⟨tb, 4, none⟩ (.int .i64 v)).drew tb b n D0 v ∧ Kp (fun i => i = tb ∨ i = b) w (w.setCell ⟨tb, 4, none⟩ (.int .i64 v)).drew := fun v =>
    ⟨⟨by simp [go_sem, hcm], by simp [go_sem, hcp], by simp [go_sem, hT.fm], by simp [go_sem, hfp], (hT.own.setCell (fun e => hT.ne e.symm) _).drew⟩, ((Kp.refl _ _).setCell (Or.inl (Or.inl rfl)) _).drew⟩
  have hp0 : 0 ≤ p := by rw [← hp]; unfold mx; split <;> omega
  have hp1 : p ≤ 9223372036854775807 := by rw [← hp]; unfold mx; split <;> omega
  by_cases hc : pk < (size D0 : Int)
  case' pos =>
    have hpe : Hid (p = (size D0 : Int)) := by rw [← hp]; exact if_pos hc
    clear hp
    go_enter Try.func26, Try.ntmps26
    go_wp2
    go_region
    obtain ⟨hT1, hK1⟩ := hstore (size D0)
    generalize (w.setCell ⟨tb, 4, none⟩ (.int .i64 (size D0 : Int))).drew = W1 at hT1 hK1 ⊢
    rw [← hpe.out] at hT1
    clear hstore hl0 hl1 hcm hcp hfp hpe
  case' neg =>
    have hpe : Hid (p = pk) := by rw [← hp]; exact if_neg hc
    clear hp
    go_enter Try.func26, Try.ntmps26
    go_wp2
    go_region
    obtain ⟨hT1, hK1⟩ := hstore pk
    generalize (w.setCell ⟨tb, 4, none⟩ (.int .i64 pk)).drew = W1 at hT1 hK1 ⊢
    rw [← hpe.out] at hT1
    clear hstore hl0 hl1 hcm hcp hfp hpe
  all_goals
    have hcm := hT1.cm
    go_wp2_with (first
      | (at_range; refine wpList_range_own _ rfl _ 53 rfl 9 45 law9 Try.underlying53 _ b n _ rfl hT1.own ?_; intro w0 hrg0 hg0 hs0)
      | go_in)
    go_frame
    go_loopw [6] (fun _ wr => ∃ (left : Lit → Bool) (cnt : Nat) (D : DataW Unit), wr.ranges Try.prog 9 bkElem b W1.heap.size n D left cnt ∧ Sw now idle D D0 left ∧ Tier wr tb b n D p ∧ Kp (fun i => i = tb ∨ i = b) w wr)
      (fun _ wr => wr.rangeLeft b W1.heap.size)
    case atStart => exact ⟨_, _, D0, hrg0, sw_start _ _ _, hT1.kept (hg0.block _ hT1.lt (by simp)) (hg0.block _ hT1.own.lt (by simp)), hK1.grown hg0 (fun j hj => by cases hj)⟩
    case round =>
      obtain ⟨left, cnt, D, hrg, hsw, hTr, hKr⟩ := hrel
      go_wp2_with (first
        | (at_next; refine wpList_next_sb _ rfl _ rfl b W1.heap.size n _ _ _ rfl hrg ?_ ?_)
        | go_in)
      · intro _ hl0
        have hsw1 := sw_none hsw hl0
        have hcmr := hTr.cm
        have hcpr := hTr.cp
        have hszD := hTr.own.size_le
        have hle0 : ∀ ty, (Builtin.len_ #[53] ty #[.map (some b)]).run Try.prog wr.drew = .ok (.int .i64 (Maps.size D)) wr.drew := fun ty => hTr.drew.own.len Try.underlying53 ty
        have hle1 : ∀ ty, (Builtin.len_ #[53] ty #[.map (some b)]).run Try.prog wr = .ok (.int .i64 (Maps.size D)) wr := fun ty => hTr.own.len Try.underlying53 ty
        clear hsw hl0 hrg
        by_cases hq : (size D : Int) < p / 2
        · go_wp2
          go_region
          have hT2 := hTr.drew
          have hK2 := hKr.drew
          clear hcmr hcpr hle0 hle1 hTr hKr
          generalize wr.drew = W2 at hT2 hK2 ⊢
          have hcm2 := hT2.cm
          have hcm3 : ∀ o, (W2.alloc o).cell? ⟨tb, 3, none⟩ = some (.map (some b)) := fun o => (World.cell?_of_block (w := W2) (Below.heap_alloc _ _ _ hT2.lt)).trans hT2.cm
          have hmk := run_makeMap_hint
          have e1 : (W2.alloc (.map #[] 0)).heap.size = W2.heap.size + 1 := by simp
          have E1 : Hid ((W2.alloc (.map #[] 0)).heap.size = W2.heap.size + 1) := e1
          clear e1
          have hbW := hT2.own.lt
          have htW := hT2.lt
          go_wp2_with (first
            | (at_len; refine wpList_len_own _ rfl _ 53 rfl 9 45 Try.underlying53 _ b n D rfl hT2.own ?_)
            | (at_range; refine wpList_range_own _ rfl _ 53 rfl 9 45 law9 Try.underlying53 _ b n _ rfl (hT2.own.alloc _) ?_; intro w0 hrg0 hg0 hs0)
            | go_in)
          go_frame
          rw [E1.out] at hrg0 hs0 ⊢
          have hTa : Tier (W2.alloc (.map #[] 0)) tb b n D p := hT2.kept (Below.heap_alloc _ _ _ htW) (Below.heap_alloc _ _ _ hbW)
          have hT3 : Tier w0 tb b n D p := hTa.kept (hg0.block _ hTa.lt (by simp)) (hg0.block _ hTa.own.lt (by simp))
          have hK3 := (hK2.alloc (.map #[] 0)).grown hg0 (fun j hj => by cases hj)
          have hout0 : w0.ownsMap Try.prog 9 bkElem W2.heap.size 0 (.map []) := (World.ownsMap_made W2 Try.prog 9 bkElem).kept hg0 (by simp)
          clear hcm hcm2 hcm3 hTa hg0 hs0 hT1
          go_loopw [9] (fun _ wr => ∃ (left : Lit → Bool) (cnt : Nat) (Dout : DataW Unit), wr.ranges Try.prog 9 bkElem b (W2.heap.size + 1) n D left cnt ∧ cnt ≤ Maps.size D ∧
              wr.ownsMap Try.prog 9 bkElem W2.heap.size (Maps.size D - cnt) Dout ∧ Agree Dout D left ∧ Tier wr tb b n D p ∧ Kp (fun i => i = tb ∨ i = b) w wr)
            (fun _ wr => wr.rangeLeft b (W2.heap.size + 1))
          case atStart => exact ⟨_, _, .map [], hrg0, Nat.le_refl _, hout0.mono (Nat.zero_le _), agree_start D, hT3, hK3⟩
          case round =>
            clear hrg0 hT3 hK3 hout0
            obtain ⟨left2, cnt2, Dout, hrg, hcs, hout, hA, hTr, hKr⟩ := hrel
            go_wp2_with (first
              | (at_next; refine wpList_next_sb _ rfl _ rfl b (W2.heap.size + 1) n _ _ _ rfl hrg ?_ ?_)
              | go_in)
            · intro hc0 hl0
              have e := agree_end hA hl0 (hout.canon law9) (hTr.own.canon law9)
              have hcmr := hTr.cm
              have hcpr := hTr.cp
              have hfmr := hTr.fm
              have hfpr := hTr.fp
              have hne1 : W2.heap.size ≠ tb := Nat.ne_of_gt htW
              have hoS : ∀ v, (wr.setCell ⟨tb, 3, none⟩ v).ownsMap Try.prog 9 bkElem W2.heap.size (Maps.size D - cnt2) Dout := fun v => hout.setCell hne1 _
              have E : Hid (Dout = D) := e
              clear e hA hl0 hrg
              go_wp2_with (first
                | (at_len; refine wpList_len_own _ rfl _ 53 rfl 9 45 Try.underlying53 _ W2.heap.size _ Dout rfl (hoS _) ?_)
                | go_in)
              go_end0
              have e := E.out
              subst e
              exact ⟨rfl, W2.heap.size, _, Dout, _, tier_stored hTr hout hne1 _, hsw1, (if_pos hq).symm, Or.inr (by have := hK2.size; omega), by omega, (hKr.setCell (Or.inl (Or.inl rfl)) _).setCell (Or.inl (Or.inl rfl)) _⟩
            · intro s f l w1 cnt1 hss hf hl hat hrg1 hlt hg1 hs1 hen
              have HS1 : Hid (w1.heap.size = wr.heap.size) := hs1
              have hsz1 : W2.heap.size < w1.heap.size := by rw [hs1]; exact hout.lt
              clear hs1
              have hout1 := hout.kept hg1 (by simp)
              have hTr1 : Tier w1 tb b n D p := hTr.kept (hg1.block _ hTr.lt (fun e => by have := Option.some.inj e; omega)) (hg1.block _ hTr.own.lt (fun e => by have := Option.some.inj e; omega))
              have hKr1 := hKr.grown hg1 (fun j hj => by cases hj; exact Or.inr (by have := hK2.size; omega))
              go_wp2_with (first
                | (at_mapUpdate; refine wpList_mapUpdate_own _ rfl _ _ _ 53 rfl 9 45 law9 Try.underlying53 _ W2.heap.size _ _ rfl (hout1.alloc _) (by unfold maxLen; omega) _ _ _ rfl rfl (keyOf_kl hss) _ [] (bkElem_mk hf hl) ?_; intro w2 hout2 hg2; go_frame)
                | go_in)
              have hrg2 := (hrg1.alloc (.cells #[.int .i64 f, .int .i64 l] 45)).kept hg2 (fun e => by have := Option.some.inj e; omega) (fun e => by have := Option.some.inj e; omega)
              have hTr2 : Tier (w1.alloc (.cells #[.int .i64 f, .int .i64 l] 45)) tb b n D p := hTr1.kept (Below.heap_alloc _ _ _ hTr1.lt) (Below.heap_alloc _ _ _ hTr1.own.lt)
              go_roundw
              case rel =>
                exact ⟨_, cnt1, _, hrg2, by omega, hout2.mono (by omega), agree_step hA hout.isMap trivial hat, hTr2.kept (hg2.block _ hTr2.lt (fun e => by have := Option.some.inj e; omega)) (hg2.block _ hTr2.own.lt (fun e => by have := Option.some.inj e; omega)),
                  (hKr1.alloc _).grown hg2 (fun j hj => by cases hj; exact Or.inr (by have := hK2.size; omega))⟩
              case measure => rw [hrg2.left_eq, hrg.left_eq]; exact hlt
        · go_wp2
          go_region
          go_wp2
          go_end0
          exact ⟨rfl, b, n, D, p, hTr.drew, hsw1, (if_neg (by omega)).symm, Or.inl rfl, Nat.le_refl _, hKr.drew⟩
      · intro s f l w1 cnt1 hss hf hl hat hrg1 hlt hg1 hs1 hen
        have hr1 : W1.heap.size ≠ tb := Nat.ne_of_gt hT1.lt
        have hTr1 : Tier w1 tb b n D p := hTr.kept (hg1.block _ hTr.lt (fun e => hr1 (Option.some.inj e).symm)) (hg1.block _ hTr.own.lt (fun e => hrg.ne (Option.some.inj e).symm))
        have hKr1 := hKr.grown hg1 (fun j hj => by cases hj; exact Or.inr hK1.size)
        have hcm1 : ∀ o, (w1.alloc o).cell? ⟨tb, 3, none⟩ = some (.map (some b)) := fun o => (World.cell?_of_block (w := w1) (Below.heap_alloc _ _ _ hTr1.lt)).trans hTr1.cm
        have HS1 : Hid (w1.heap.size = wr.heap.size) := hs1
        clear hs1
        obtain ⟨fb1, fb2⟩ : -1152921504606846976 ≤ f ∧ f ≤ 1152921504606846976 := of_decide_eq_true hf
        obtain ⟨lb1, lb2⟩ : -1152921504606846976 ≤ l ∧ l ≤ 1152921504606846976 := of_decide_eq_true hl
        obtain ⟨nb1, nb2⟩ : -1152921504606846976 ≤ now ∧ now ≤ 1152921504606846976 := of_decide_eq_true n1
        by_cases hd : idle < now - l ∧ f ≤ now
        · obtain ⟨hd1, hd2⟩ := hd
          go_wp2_with (first
            | (at_delete; refine wpList_delete_ranges _ rfl _ _ 53 9 rfl 45 law9 Try.underlying53 _ b W1.heap.size n _ _ _ rfl (hrg1.alloc _) _ _ rfl (keyOf_kl hss) ?_; intro w2 cnt2 hrg2 hle hturn; go_frame)
            | go_in)
          rw [strike_twice] at hrg2
          go_roundw
          case rel => exact ⟨_, cnt2, _, hrg2, sw_struck hsw trivial hat (by rw [deadD_bk]; simp [deadB, hd1, hd2]), (hTr1.kept (Below.heap_alloc _ _ _ hTr1.lt) (Below.heap_alloc _ _ _ hTr1.own.lt)).turn hrg2.owns hturn.grown, (hKr1.alloc _).grown hturn.grown (fun j hj => by cases hj; exact Or.inl (Or.inr rfl))⟩
          case measure => rw [hrg2.left_eq, hrg.left_eq]; omega
        · by_cases hd1 : idle < now - l
          · have hd2 : ¬ f ≤ now := fun h => hd ⟨hd1, h⟩
            clear hd
            go_wp2
            go_roundw
            case rel => exact ⟨_, cnt1, D, hrg1.alloc _, sw_stays hsw trivial hat (by rw [deadD_bk]; simp [deadB, hd2]), hTr1.kept (Below.heap_alloc _ _ _ hTr1.lt) (Below.heap_alloc _ _ _ hTr1.own.lt), hKr1.alloc _⟩
            case measure => rw [(hrg1.alloc _).left_eq, hrg.left_eq]; exact hlt
          · clear hd
            go_wp2
            go_roundw
            case rel => exact ⟨_, cnt1, D, hrg1.alloc _, sw_stays hsw trivial hat (by rw [deadD_bk]; simp [deadB, hd1]), hTr1.kept (Below.heap_alloc _ _ _ hTr1.lt) (Below.heap_alloc _ _ _ hTr1.own.lt), hKr1.alloc _⟩
            case measure => rw [(hrg1.alloc _).left_eq, hrg.left_eq]; exact hlt

theorem zzsweep_any (tb b n : Nat) (D0 : DataW Unit) (pk now idle : Int) (w : World) (hT : Tier w tb b n D0 pk) (hn : n ≤ 65536) (n1 : inB now = true) (n2 : inB idle = true) (hpm : pk ≤ 9223372036854775807) :
    Calls Try.prog 20 #[.pointer (some ⟨tb, 0, none⟩), .int .i64 now, .int .i64 idle] w fun e w' => e = .returned (.tuple #[]) ∧ Swept now idle tb b n D0 (mx pk (size D0)) w w' := by
  go_enter Try.func20, Try.ntmps20
  go_wp2_with (go_at_call 26; refine (sweep_any tb b n D0 pk now idle _ hT hn n1 n2 hpm).mono ?_; rintro e w' ⟨rfl, hS⟩)
  go_end0
  exact ⟨rfl, hS⟩
end Go.Proofs.Qxb6603706a
