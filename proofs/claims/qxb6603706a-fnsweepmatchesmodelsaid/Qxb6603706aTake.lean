/-
  CONTRACTS of (rate).take, ZZTake, zzb1RateOK, zzb1In.
-/
import Derived.Test.Qxb6603706aRows
import Derived.WalkKit
import Derived.WalkSpells
import Derived.RegionTactic
import Derived.ChangeAlike
import Derived.BigRegion
import Derived.Deep.QuietTactic
import Derived.BigQuiet
import Derived.Outline
import Derived.RowKit3
namespace Go.Proofs.Qxb6603706a
open Go.RowKit
set_option linter.unusedVariables false

theorem Grown.trans {a b c : World} (h : Grown a b) (k : Grown b c) : Grown a c :=
  ⟨World.keptBut_trans h.1 (World.keptBut_mono (fun _ f => f.elim) k.1), fun x => (k.2.1 x).trans (h.2.1 x), Nat.le_trans h.2.2 k.2.2⟩

/-- the last of the bucket that take returns -/
def tkL (l n : Int) : Int := if l < n then n else l
/-- the fullAt at which take decides -/
def tkF (f l n : Int) : Int := if f < tkL l n then tkL l n else f

theorem take_y1 (lim iv room f l n : Int) (w : World)
    (i1 : 1 ≤ iv) (i2 : iv ≤ 1152921504606846976) (r1 : 0 ≤ room) (r2 : room ≤ 1152921504606846976)
    (f1 : -3458764513820540928 ≤ f) (f2 : f ≤ 3458764513820540928) (l1 : -3458764513820540928 ≤ l) (l2 : l ≤ 3458764513820540928) (n1 : -3458764513820540928 ≤ n) (n2 : n ≤ 3458764513820540928)
    (h1 : l < n) (h2 : f < n) :
    Calls Try.prog 22 #[.agg #[.int .i64 lim, .int .i64 iv, .int .i64 room], .agg #[.int .i64 f, .int .i64 l], .int .i64 n] w fun e w' =>
      e = .returned (.tuple #[.bool true, .agg #[.int .i64 (n + iv), .int .i64 n], .int .i64 0]) ∧ Grown w w' := by
  go_enter Try.func22, Try.ntmps22
  go_wp2
  go_region
  all_goals
    go_wp2
    exact bodyPost_ret (v := (.tuple #[.bool true, .agg #[.int .i64 (n + iv), .int .i64 n], .int .i64 0])) (by simp [results, Try.results22, go_sem]) rfl ⟨rfl, by repeat (first | exact Grown.refl _ | apply Grown.drew | apply Grown.alloc)⟩

theorem take_y2 (lim iv room f l n : Int) (w : World)
    (i1 : 1 ≤ iv) (i2 : iv ≤ 1152921504606846976) (r1 : 0 ≤ room) (r2 : room ≤ 1152921504606846976)
    (f1 : -3458764513820540928 ≤ f) (f2 : f ≤ 3458764513820540928) (l1 : -3458764513820540928 ≤ l) (l2 : l ≤ 3458764513820540928) (n1 : -3458764513820540928 ≤ n) (n2 : n ≤ 3458764513820540928)
    (h1 : ¬ l < n) (h2 : f < l) :
    Calls Try.prog 22 #[.agg #[.int .i64 lim, .int .i64 iv, .int .i64 room], .agg #[.int .i64 f, .int .i64 l], .int .i64 n] w fun e w' =>
      e = .returned (.tuple #[.bool true, .agg #[.int .i64 (l + iv), .int .i64 l], .int .i64 0]) ∧ Grown w w' := by
  go_enter Try.func22, Try.ntmps22
  go_wp2
  go_region
  all_goals
    go_wp2
    exact bodyPost_ret (v := (.tuple #[.bool true, .agg #[.int .i64 (l + iv), .int .i64 l], .int .i64 0])) (by simp [results, Try.results22, go_sem]) rfl ⟨rfl, by repeat (first | exact Grown.refl _ | apply Grown.drew | apply Grown.alloc)⟩

theorem take_y3 (lim iv room f l n : Int) (w : World)
    (i1 : 1 ≤ iv) (i2 : iv ≤ 1152921504606846976) (r1 : 0 ≤ room) (r2 : room ≤ 1152921504606846976)
    (f1 : -3458764513820540928 ≤ f) (f2 : f ≤ 3458764513820540928) (l1 : -3458764513820540928 ≤ l) (l2 : l ≤ 3458764513820540928) (n1 : -3458764513820540928 ≤ n) (n2 : n ≤ 3458764513820540928)
    (h1 : l < n) (h2 : ¬ f < n) (h3 : f - n ≤ room) :
    Calls Try.prog 22 #[.agg #[.int .i64 lim, .int .i64 iv, .int .i64 room], .agg #[.int .i64 f, .int .i64 l], .int .i64 n] w fun e w' =>
      e = .returned (.tuple #[.bool true, .agg #[.int .i64 (f + iv), .int .i64 n], .int .i64 0]) ∧ Grown w w' := by
  go_enter Try.func22, Try.ntmps22
  go_wp2
  go_region
  all_goals
    go_wp2
    exact bodyPost_ret (v := (.tuple #[.bool true, .agg #[.int .i64 (f + iv), .int .i64 n], .int .i64 0])) (by simp [results, Try.results22, go_sem]) rfl ⟨rfl, by repeat (first | exact Grown.refl _ | apply Grown.drew | apply Grown.alloc)⟩

theorem take_y4 (lim iv room f l n : Int) (w : World)
    (i1 : 1 ≤ iv) (i2 : iv ≤ 1152921504606846976) (r1 : 0 ≤ room) (r2 : room ≤ 1152921504606846976)
    (f1 : -3458764513820540928 ≤ f) (f2 : f ≤ 3458764513820540928) (l1 : -3458764513820540928 ≤ l) (l2 : l ≤ 3458764513820540928) (n1 : -3458764513820540928 ≤ n) (n2 : n ≤ 3458764513820540928)
    (h1 : ¬ l < n) (h2 : ¬ f < l) (h3 : f - l ≤ room) :
    Calls Try.prog 22 #[.agg #[.int .i64 lim, .int .i64 iv, .int .i64 room], .agg #[.int .i64 f, .int .i64 l], .int .i64 n] w fun e w' =>
      e = .returned (.tuple #[.bool true, .agg #[.int .i64 (f + iv), .int .i64 l], .int .i64 0]) ∧ Grown w w' := by
  go_enter Try.func22, Try.ntmps22
  go_wp2
  go_region
  all_goals
    go_wp2
    exact bodyPost_ret (v := (.tuple #[.bool true, .agg #[.int .i64 (f + iv), .int .i64 l], .int .i64 0])) (by simp [results, Try.results22, go_sem]) rfl ⟨rfl, by repeat (first | exact Grown.refl _ | apply Grown.drew | apply Grown.alloc)⟩

theorem take_n3 (lim iv room f l n : Int) (w : World)
    (i1 : 1 ≤ iv) (i2 : iv ≤ 1152921504606846976) (r1 : 0 ≤ room) (r2 : room ≤ 1152921504606846976)
    (f1 : -3458764513820540928 ≤ f) (f2 : f ≤ 3458764513820540928) (l1 : -3458764513820540928 ≤ l) (l2 : l ≤ 3458764513820540928) (n1 : -3458764513820540928 ≤ n) (n2 : n ≤ 3458764513820540928)
    (h1 : l < n) (h2 : ¬ f < n) (h3 : room < f - n) :
    Calls Try.prog 22 #[.agg #[.int .i64 lim, .int .i64 iv, .int .i64 room], .agg #[.int .i64 f, .int .i64 l], .int .i64 n] w fun e w' =>
      e = .returned (.tuple #[.bool false, .agg #[.int .i64 f, .int .i64 n], .int .i64 (f - room - n)]) ∧ Grown w w' := by
  go_enter Try.func22, Try.ntmps22
  go_wp2
  go_region
  all_goals
    go_wp2
    exact bodyPost_ret (v := (.tuple #[.bool false, .agg #[.int .i64 f, .int .i64 n], .int .i64 (f - room - n)])) (by simp [results, Try.results22, go_sem]) rfl ⟨rfl, by repeat (first | exact Grown.refl _ | apply Grown.drew | apply Grown.alloc)⟩

theorem take_n4 (lim iv room f l n : Int) (w : World)
    (i1 : 1 ≤ iv) (i2 : iv ≤ 1152921504606846976) (r1 : 0 ≤ room) (r2 : room ≤ 1152921504606846976)
    (f1 : -3458764513820540928 ≤ f) (f2 : f ≤ 3458764513820540928) (l1 : -3458764513820540928 ≤ l) (l2 : l ≤ 3458764513820540928) (n1 : -3458764513820540928 ≤ n) (n2 : n ≤ 3458764513820540928)
    (h1 : ¬ l < n) (h2 : ¬ f < l) (h3 : room < f - l) :
    Calls Try.prog 22 #[.agg #[.int .i64 lim, .int .i64 iv, .int .i64 room], .agg #[.int .i64 f, .int .i64 l], .int .i64 n] w fun e w' =>
      e = .returned (.tuple #[.bool false, .agg #[.int .i64 f, .int .i64 l], .int .i64 (f - room - n)]) ∧ Grown w w' := by
  go_enter Try.func22, Try.ntmps22
  go_wp2
  go_region
  all_goals
    go_wp2
    exact bodyPost_ret (v := (.tuple #[.bool false, .agg #[.int .i64 f, .int .i64 l], .int .i64 (f - room - n)])) (by simp [results, Try.results22, go_sem]) rfl ⟨rfl, by repeat (first | exact Grown.refl _ | apply Grown.drew | apply Grown.alloc)⟩

theorem take_yes (lim iv room f l n : Int) (w : World)
    (i1 : 1 ≤ iv) (i2 : iv ≤ 1152921504606846976) (r1 : 0 ≤ room) (r2 : room ≤ 1152921504606846976)
    (f1 : -3458764513820540928 ≤ f) (f2 : f ≤ 3458764513820540928) (l1 : -3458764513820540928 ≤ l) (l2 : l ≤ 3458764513820540928) (n1 : -3458764513820540928 ≤ n) (n2 : n ≤ 3458764513820540928)
    (h : tkF f l n - tkL l n ≤ room) :
    Calls Try.prog 22 #[.agg #[.int .i64 lim, .int .i64 iv, .int .i64 room], .agg #[.int .i64 f, .int .i64 l], .int .i64 n] w fun e w' =>
      e = .returned (.tuple #[.bool true, .agg #[.int .i64 (tkF f l n + iv), .int .i64 (tkL l n)], .int .i64 0]) ∧ Grown w w' := by
  unfold tkF tkL at *
  by_cases h1 : l < n
  · simp only [if_pos h1] at *
    by_cases h2 : f < n
    · simp only [if_pos h2]
      exact take_y1 lim iv room f l n w i1 i2 r1 r2 f1 f2 l1 l2 n1 n2 h1 h2
    · simp only [if_neg h2] at *
      exact take_y3 lim iv room f l n w i1 i2 r1 r2 f1 f2 l1 l2 n1 n2 h1 h2 h
  · simp only [if_neg h1] at *
    by_cases h2 : f < l
    · simp only [if_pos h2]
      exact take_y2 lim iv room f l n w i1 i2 r1 r2 f1 f2 l1 l2 n1 n2 h1 h2
    · simp only [if_neg h2] at *
      exact take_y4 lim iv room f l n w i1 i2 r1 r2 f1 f2 l1 l2 n1 n2 h1 h2 h
theorem take_no (lim iv room f l n : Int) (w : World)
    (i1 : 1 ≤ iv) (i2 : iv ≤ 1152921504606846976) (r1 : 0 ≤ room) (r2 : room ≤ 1152921504606846976)
    (f1 : -3458764513820540928 ≤ f) (f2 : f ≤ 3458764513820540928) (l1 : -3458764513820540928 ≤ l) (l2 : l ≤ 3458764513820540928) (n1 : -3458764513820540928 ≤ n) (n2 : n ≤ 3458764513820540928)
    (h : room < tkF f l n - tkL l n) :
    Calls Try.prog 22 #[.agg #[.int .i64 lim, .int .i64 iv, .int .i64 room], .agg #[.int .i64 f, .int .i64 l], .int .i64 n] w fun e w' =>
      e = .returned (.tuple #[.bool false, .agg #[.int .i64 f, .int .i64 (tkL l n)], .int .i64 (f - room - n)]) ∧ Grown w w' := by
  unfold tkF tkL at *
  by_cases h1 : l < n
  · simp only [if_pos h1] at *
    by_cases h2 : f < n
    · simp only [if_pos h2] at h; omega
    · simp only [if_neg h2] at *
      exact take_n3 lim iv room f l n w i1 i2 r1 r2 f1 f2 l1 l2 n1 n2 h1 h2 h
  · simp only [if_neg h1] at *
    by_cases h2 : f < l
    · simp only [if_pos h2] at h; omega
    · simp only [if_neg h2] at *
      exact take_n4 lim iv room f l n w i1 i2 r1 r2 f1 f2 l1 l2 n1 n2 h1 h2 h

/-- ZZTake -/
theorem Grown.drewN {W w' : World} (h : Grown W w') {n : Nat} : Grown W (w'.drewN n) := h
theorem zztake_yes (iv room f l n : Int) (w : World)
    (i1 : 1 ≤ iv) (i2 : iv ≤ 1152921504606846976) (r1 : 0 ≤ room) (r2 : room ≤ 1152921504606846976)
    (f1 : -3458764513820540928 ≤ f) (f2 : f ≤ 3458764513820540928) (l1 : -3458764513820540928 ≤ l) (l2 : l ≤ 3458764513820540928) (n1 : -3458764513820540928 ≤ n) (n2 : n ≤ 3458764513820540928)
    (h : tkF f l n - tkL l n ≤ room) :
    Calls Try.prog 9 #[.int .i64 iv, .int .i64 room, .int .i64 f, .int .i64 l, .int .i64 n] w fun e w' =>
      e = .returned (.tuple #[.bool true, .int .i64 (tkF f l n + iv), .int .i64 (tkL l n), .int .i64 0]) ∧ Grown w w' := by
  go_enter Try.func9, Try.ntmps9
  go_wp2_with (go_at_call 22; refine (take_yes _ iv room f l n _ i1 i2 r1 r2 f1 f2 l1 l2 n1 n2 h).mono ?_; rintro e w' ⟨rfl, hg⟩)
  go_quiet (fail)
  go_wp2
  exact bodyPost_ret (v := (.tuple #[.bool true, .int .i64 (tkF f l n + iv), .int .i64 (tkL l n), .int .i64 0])) (by simp [results, Try.results9, go_sem]) rfl ⟨rfl, Grown.drewN ((hg.alloc _ _))⟩
theorem zztake_no (iv room f l n : Int) (w : World)
    (i1 : 1 ≤ iv) (i2 : iv ≤ 1152921504606846976) (r1 : 0 ≤ room) (r2 : room ≤ 1152921504606846976)
    (f1 : -3458764513820540928 ≤ f) (f2 : f ≤ 3458764513820540928) (l1 : -3458764513820540928 ≤ l) (l2 : l ≤ 3458764513820540928) (n1 : -3458764513820540928 ≤ n) (n2 : n ≤ 3458764513820540928)
    (h : room < tkF f l n - tkL l n) :
    Calls Try.prog 9 #[.int .i64 iv, .int .i64 room, .int .i64 f, .int .i64 l, .int .i64 n] w fun e w' =>
      e = .returned (.tuple #[.bool false, .int .i64 f, .int .i64 (tkL l n), .int .i64 (f - room - n)]) ∧ Grown w w' := by
  go_enter Try.func9, Try.ntmps9
  go_wp2_with (go_at_call 22; refine (take_no _ iv room f l n _ i1 i2 r1 r2 f1 f2 l1 l2 n1 n2 h).mono ?_; rintro e w' ⟨rfl, hg⟩)
  go_quiet (fail)
  go_wp2
  exact bodyPost_ret (v := (.tuple #[.bool false, .int .i64 f, .int .i64 (tkL l n), .int .i64 (f - room - n)])) (by simp [results, Try.results9, go_sem]) rfl ⟨rfl, Grown.drewN ((hg.alloc _ _))⟩

/-! zzb1RateOK, zzb1In -/
theorem ret_bool {a b : Bool} (h : a = b) : Ending.returned (.bool a) = .returned (.bool b) := by rw [h]
def rateB (a b : Int) : Bool := decide (1 ≤ a ∧ a ≤ 1152921504606846976 ∧ 0 ≤ b ∧ b ≤ 1152921504606846976)
def inB (a : Int) : Bool := decide (-1152921504606846976 ≤ a ∧ a ≤ 1152921504606846976)
theorem rateOK_any (a b : Int) (w : World) :
    Calls Try.prog 7 #[.int .i64 a, .int .i64 b] w fun e w' => e = .returned (.bool (rateB a b)) ∧ w' = w := by
  go_enter Try.func7, Try.ntmps7
  go_wp2
  all_goals (go_ret; exact ⟨ret_bool (by unfold rateB; rw [Bool.eq_iff_iff]; simp; omega), rfl⟩)
theorem in_any (a : Int) (w : World) :
    Calls Try.prog 8 #[.int .i64 a] w fun e w' => e = .returned (.bool (inB a)) ∧ w' = w := by
  go_enter Try.func8, Try.ntmps8
  go_wp2
  all_goals (go_ret; exact ⟨ret_bool (by unfold inB; rw [Bool.eq_iff_iff]; simp; omega), rfl⟩)
end Go.Proofs.Qxb6603706a
