/-
  PLAIN LAWS for FnSweepMatchesModel: what the built map holds; the ghost map that counts.
-/
import Derived.Test.Qxb6603706aSweep
namespace Go.Proofs.Qxb6603706a
open Go.RowKit Go.Maps
set_option linter.unusedVariables false

theorem kl_key (s : ByteArray) : WideAt.IsKeyLit (kl s) := trivial
theorem bld_isMap (ss : Nat → ByteArray) (f l : Nat → Int) (n : Nat) : IsMap (bld ss f l n) := by
  induction n with
  | zero => exact isMap_empty
  | succ n ih => exact ih.put _ _
theorem bld_has (ss : Nat → ByteArray) (f l : Nat → Int) (n : Nat) (x : Lit) : has (bld ss f l n) x = true ↔ ∃ j, j < n ∧ x = kl (ss j) := by
  induction n with
  | zero =>
    constructor
    · intro h; exact absurd h (by show ¬ (false = true); simp)
    · rintro ⟨j, hj, _⟩; omega
  | succ n ih =>
    show has ((bld ss f l n).put (kl (ss n)) (bk (f n) (l n))) x = true ↔ _
    by_cases e : x = kl (ss n)
    · rw [e, has_put_same (bld_isMap ss f l n) (kl_key _)]
      exact ⟨fun _ => ⟨n, by omega, rfl⟩, fun _ => rfl⟩
    · rw [has_put_other e, ih]
      exact ⟨fun ⟨j, hj, h⟩ => ⟨j, by omega, h⟩, fun ⟨j, hj, h⟩ => ⟨j, by rcases Nat.lt_succ_iff_lt_or_eq.1 hj with h1 | h1; exact h1; subst h1; exact absurd h e, h⟩⟩

def bF : DataW Unit → Int
  | .agg [.lit (.int _ f), _] => f
  | _ => 0
def bL : DataW Unit → Int
  | .agg [_, .lit (.int _ l)] => l
  | _ => 0
theorem bF_bk (f l : Int) : bF (bk f l) = f := rfl
theorem bL_bk (f l : Int) : bL (bk f l) = l := rfl

/-- two readings with the same keys are of one size -/
theorem size_eq_of_has : ∀ (n : Nat) {D₁ D₂ : DataW Unit}, size D₁ = n → Tidy D₁ → Tidy D₂ → (∀ es, D₁ = .map es → ∀ p ∈ es, WideAt.IsKeyLit p.1) → (∀ es, D₂ = .map es → ∀ p ∈ es, WideAt.IsKeyLit p.1) → (∀ x, has D₁ x = has D₂ x) → size D₁ = size D₂
  | 0, D₁, D₂, hn, h1, h2, k1, k2, hh => by
    obtain ⟨es1, rfl, _⟩ := h1
    obtain ⟨es2, rfl, _⟩ := h2
    rw [hn]
    cases es2 with
    | nil => rfl
    | cons p r =>
      have e1 : es1 = [] := List.eq_nil_of_length_eq_zero hn
      have := hh p.1
      rw [e1] at this
      have t : has (.map (p :: r)) p.1 = true := List.any_eq_true.2 ⟨p, by simp, WideAt.sameKey_self (k2 _ rfl p (by simp))⟩
      rw [t] at this
      cases this
  | n + 1, D₁, D₂, hn, h1, h2, k1, k2, hh => by
    obtain ⟨es1, rfl, hp1⟩ := h1
    cases es1 with
    | nil => cases hn
    | cons p r =>
      have t : has (.map (p :: r)) p.1 = true := List.any_eq_true.2 ⟨p, by simp, WideAt.sameKey_self (k1 _ rfl p (by simp))⟩
      have T1 : Tidy (.map (p :: r) : DataW Unit) := ⟨_, rfl, hp1⟩
      have s1 := size_del (k := p.1) T1
      have s2 := size_del (k := p.1) h2
      rw [t] at s1
      rw [← hh, t] at s2
      simp only [if_true] at s1 s2
      have kd : ∀ (D : DataW Unit), (∀ es, D = .map es → ∀ p ∈ es, WideAt.IsKeyLit p.1) → ∀ es, D.del p.1 = .map es → ∀ p ∈ es, WideAt.IsKeyLit p.1 := by
        intro D hD es he q hq
        cases D <;> simp [DataW.del] at he
        rename_i es'
        subst he
        exact hD _ rfl q (List.mem_filter.1 hq).1
      have := size_eq_of_has n (D₁ := (DataW.map (p :: r)).del p.1) (D₂ := D₂.del p.1) (by rw [hn] at s1; omega) (T1.del _) (h2.del _) (kd _ k1) (kd _ k2) (fun x => by
        by_cases e : x = p.1
        · subst e; rw [has_del_same, has_del_same]
        · rw [has_del_other e, has_del_other e, hh])
      omega

/-- the ghost: the kept keys among those seen -/
structure Ghost (S D1 E : DataW Unit) : Prop where
  tidy : Tidy E
  keys : ∀ es, E = .map es → ∀ p ∈ es, WideAt.IsKeyLit p.1
  has : ∀ x, Maps.has E x = (Maps.has S x && Maps.has D1 x)
theorem ghost_start (D1 : DataW Unit) : Ghost (.map []) D1 (.map []) := ⟨tidy_empty, fun es h p hp => by cases h; simp at hp, fun x => rfl⟩
theorem keys_put {E : DataW Unit} (hE : ∀ es, E = .map es → ∀ p ∈ es, WideAt.IsKeyLit p.1) (hm : IsMap E) {x : Lit} (hx : WideAt.IsKeyLit x) (d : DataW Unit) : ∀ es, E.put x d = .map es → ∀ p ∈ es, WideAt.IsKeyLit p.1 := by
  obtain ⟨es0, rfl⟩ := hm
  intro es he p hp
  have e1 : DataW.put (.map es0) x d = .map (ChangeMaps.putKey x d es0) := DataW.put_eq _ _ _
  rw [e1] at he
  cases he
  unfold ChangeMaps.putKey at hp
  rcases ChangeMaps.mem_insert_iff.1 hp with h | h
  · rw [h]; exact hx
  · exact hE _ rfl p (List.mem_filter.1 h).1
theorem ghost_new {S D1 E : DataW Unit} (h : Ghost S D1 E) (hS : IsMap S) {x : Lit} (hx : WideAt.IsKeyLit x) (hs : has S x = false) (hd : has D1 x = true) (d u : DataW Unit) :
    Ghost (S.put x u) D1 (E.put x d) ∧ size (E.put x d) = size E + 1 := by
  have he : has E x = false := by rw [h.has, hs]; rfl
  refine ⟨⟨h.tidy.put hx d, keys_put h.keys h.tidy.isMap hx d, fun y => ?_⟩, ?_⟩
  · by_cases e : y = x
    · subst e
      rw [has_put_same h.tidy.isMap hx, has_put_same hS hx, hd]; rfl
    · rw [has_put_other e, has_put_other e, h.has]
  · rw [size_put h.tidy, he]; rfl
theorem ghost_gone {S D1 E : DataW Unit} (h : Ghost S D1 E) (hS : IsMap S) {x : Lit} (hx : WideAt.IsKeyLit x) (hd : has D1 x = false) (u : DataW Unit) : Ghost (S.put x u) D1 E := by
  refine ⟨h.tidy, h.keys, fun y => ?_⟩
  by_cases e : y = x
  · subst e
    rw [has_put_same hS hx, hd, h.has, hd]; simp
  · rw [has_put_other e, h.has]
end Go.Proofs.Qxb6603706a
