/-
  THE PLAIN MODEL of goesOn's table: a line as a function on its places; no Go in sight.
-/
import Derived.Test.Qxb6002915aRows
namespace Go.Proofs.Qxb6002915a
set_option linter.unusedVariables false

/-- the line as the cursor sees it -/
def atF (f : Nat → Int) (n : Nat) (nb : Bool) (i : Nat) : Int := if i < n then f i else if nb = true then 255 else 0
/-- the column after a byte -/
def nxt (c : Nat) (b : Int) : Nat := if b = 9 then (c / 4 + 1) * 4 else c + 1
/-- over spaces and tabs -/
def scan (f : Nat → Int) : Nat → Nat → Nat → Nat × Nat
  | 0, p, c => (p, c)
  | k + 1, p, c => if f p = 32 ∨ f p = 9 then scan f k (p + 1) (nxt c (f p)) else (p, c)
/-- on to column t -/
def cols (f : Nat → Int) (t : Nat) : Nat → Nat → Nat → Nat × Nat
  | 0, q, c => (q, c)
  | m + 1, q, c => if t < nxt c (f q) then (q, t) else cols f t m (q + 1) (nxt c (f q))
def colsK (f : Nat → Int) (n p c : Nat) (k : Int) : Nat × Nat := if k ≤ 0 then (p, c) else cols f (c + k.toNat) (n - p) p c

theorem nxt_gt (c : Nat) (b : Int) : c < nxt c b ∧ nxt c b ≤ c + 4 := by unfold nxt; split <;> omega
theorem nxt_tab (c : Nat) : nxt c 9 = c + (4 - c % 4) := by unfold nxt; rw [if_pos rfl]; omega
theorem nxt_other (c : Nat) {b : Int} (h : b ≠ 9) : nxt c b = c + 1 := if_neg h

theorem scan_le (f : Nat → Int) (k p c : Nat) : p ≤ (scan f k p c).1 ∧ (scan f k p c).1 ≤ p + k ∧ c + ((scan f k p c).1 - p) ≤ (scan f k p c).2 ∧ (scan f k p c).2 ≤ c + 4 * ((scan f k p c).1 - p) := by
  induction k generalizing p c with
  | zero => simp [scan]
  | succ k ih =>
    unfold scan
    split
    · have := ih (p + 1) (nxt c (f p))
      have := nxt_gt c (f p)
      omega
    · simp
/-- where the scan stands, and its step -/
theorem scan_step {f : Nat → Int} {k q d F C : Nat} (h : scan f k q d = (F, C)) :
    (q = F ∧ d = C ∧ (k = 0 ∨ (f q ≠ 32 ∧ f q ≠ 9))) ∨ (0 < k ∧ q < F ∧ (f q = 32 ∨ f q = 9) ∧ scan f (k - 1) (q + 1) (nxt d (f q)) = (F, C)) := by
  cases k with
  | zero => cases h; exact .inl ⟨rfl, rfl, .inl rfl⟩
  | succ k =>
    unfold scan at h
    split at h
    case isTrue hc =>
      refine .inr ⟨by omega, ?_, hc, h⟩
      have := (scan_le f k (q + 1) (nxt d (f q))).1
      rw [h] at this
      exact this
    case isFalse hc =>
      cases h
      exact .inl ⟨rfl, rfl, .inr ⟨fun e => hc (.inl e), fun e => hc (.inr e)⟩⟩
theorem scan_bound {f : Nat → Int} {k q d F C : Nat} (h : scan f k q d = (F, C)) : q ≤ F ∧ F ≤ q + k ∧ d ≤ C ∧ C ≤ d + 4 * k := by
  have := scan_le f k q d
  rw [h] at this
  simp only at this
  omega
/-- the columns of a scan -/
theorem cols_scan {f : Nat → Int} {t k q d F C : Nat} (h : scan f k q d = (F, C)) (ht : C ≤ t) : cols f t k q d = cols f t (k - (F - q)) F C := by
  induction k generalizing q d with
  | zero => cases h; simp
  | succ k ih =>
    rcases scan_step h with ⟨rfl, rfl, _⟩ | ⟨_, hlt, hb, h2⟩
    · simp
    · have h2' : scan f k (q + 1) (nxt d (f q)) = (F, C) := h2
      have hb2 := scan_bound h2'
      have := ih h2'
      rw [show k + 1 - (F - q) = k - (F - (q + 1)) by omega]
      rw [← this]
      show (if t < nxt d (f q) then (q, t) else cols f t k (q + 1) (nxt d (f q))) = _
      rw [if_neg (by omega)]
/-- the block quote's marker -/
theorem colsK_quote {f : Nat → Int} {n p c F C : Nat} (h : scan f (n - p) p c = (F, C)) (hF : F < n) (h62 : f F = 62) : colsK f n p c ((C : Int) - (c : Int) + 1) = (F + 1, C + 1) := by
  have hb := scan_bound h
  unfold colsK
  rw [if_neg (by omega), show c + ((C : Int) - (c : Int) + 1).toNat = C + 1 by omega, cols_scan h (by omega)]
  obtain ⟨m, hm⟩ : ∃ m, n - p - (F - p) = m + 1 := ⟨n - p - (F - p) - 1, by omega⟩
  rw [hm]
  show (if C + 1 < nxt C (f F) then (F, C + 1) else cols f (C + 1) m (F + 1) (nxt C (f F))) = _
  rw [h62, nxt_other C (by decide), if_neg (by omega)]
  cases m with
  | zero => rfl
  | succ m =>
    show (if C + 1 < nxt (C + 1) (f (F + 1)) then (F + 1, C + 1) else _) = _
    rw [if_pos (nxt_gt _ _).1]
/-- at the column that was sought -/
theorem cols_there (f : Nat → Int) (t m q : Nat) : cols f t m q t = (q, t) := by
  cases m with
  | zero => rfl
  | succ m =>
    show (if t < nxt t (f q) then (q, t) else _) = _
    rw [if_pos (nxt_gt _ _).1]
theorem cols_bound (f : Nat → Int) (t m q d : Nat) (h : d ≤ t) : q ≤ (cols f t m q d).1 ∧ (cols f t m q d).1 ≤ q + m ∧ d ≤ (cols f t m q d).2 ∧ (cols f t m q d).2 ≤ t := by
  induction m generalizing q d with
  | zero => simp [cols, h]
  | succ m ih =>
    unfold cols
    split
    · simp; omega
    · have h1 := ih (q + 1) (nxt d (f q)) (by omega)
      have := nxt_gt d (f q)
      omega

/-- goesOn's answer and the place where it leaves the cursor -/
def goes (f : Nat → Int) (n : Nat) (nb : Bool) (p c F C : Nat) (kind width : Int) (empty : Bool) (html : Int) : Bool × Nat × Nat :=
  if kind = 1 then
    if 3 < (C : Int) - (c : Int) ∨ atF f n nb F ≠ 62 then (false, p, c)
    else if atF f n nb (F + 1) = 32 ∨ atF f n nb (F + 1) = 9 then (true, colsK f n (F + 1) (C + 1) 1) else (true, F + 1, C + 1)
  else if kind = 2 then
    if width ≤ (C : Int) - (c : Int) then (true, colsK f n p c width) else if atF f n nb F = 0 ∧ empty = false then (true, F, C) else (false, p, c)
  else if kind = 5 then
    if 4 ≤ (C : Int) - (c : Int) then (true, colsK f n p c 4) else if atF f n nb F = 0 then (true, F, C) else (false, p, c)
  else if kind = 6 then (decide (html ≤ 5) || !decide (atF f n nb F = 0), p, c)
  else if kind = 3 then (!decide (atF f n nb F = 0), p, c)
  else (true, p, c)
end Go.Proofs.Qxb6002915a
