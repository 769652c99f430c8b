/-
  THE PLAIN LAW of the record format: uvarints as lists of bytes, there and back. No Go in sight; imports nothing.
-/
namespace Go.Proofs.Qxb6604343a.Wire

/-- a uvarint, with fuel -/
def uvF : Nat → Nat → List Nat
  | 0, v => [v]
  | f + 1, v => if v < 128 then [v] else (v % 128 + 128) :: uvF f (v / 128)
def uv (v : Nat) : List Nat := uvF 9 v
def pw : Nat → Nat
  | 0 => 1
  | i + 1 => pw i * 128

theorem pw_pos (i : Nat) : 0 < pw i := by
  induction i with
  | zero => exact Nat.one_pos
  | succ i ih => exact Nat.mul_pos ih (by omega)
theorem pw_eq (i : Nat) : pw i = 2 ^ (7 * i) := by
  induction i with
  | zero => rfl
  | succ i ih => show pw i * 128 = 2 ^ (7 * i + 7); rw [ih, Nat.pow_add]
theorem pw_le {i j : Nat} (h : i ≤ j) : pw i ≤ pw j := by
  rw [pw_eq, pw_eq]; exact Nat.pow_le_pow_right (by omega) (by omega)

theorem uvF_small (f v : Nat) (h : v < 128) : uvF f v = [v] := by
  cases f with
  | zero => rfl
  | succ f => exact if_pos h
theorem uvF_big (f v : Nat) (h : ¬ v < 128) : uvF (f + 1) v = (v % 128 + 128) :: uvF f (v / 128) := if_neg h
theorem uvF_len (f v : Nat) : (uvF f v).length ≤ f + 1 ∧ 0 < (uvF f v).length := by
  induction f generalizing v with
  | zero => exact ⟨Nat.le_refl _, Nat.one_pos⟩
  | succ f ih =>
    by_cases h : v < 128
    · rw [uvF_small _ _ h]; exact ⟨by simp, Nat.one_pos⟩
    · rw [uvF_big _ _ h]; simp; have := (ih (v / 128)).1; omega
theorem uv_len (v : Nat) : (uv v).length ≤ 10 ∧ 0 < (uv v).length := uvF_len 9 v
theorem uvF_byte (f v : Nat) (hv : v < pw (f + 1)) : ∀ b ∈ uvF f v, b < 256 := by
  induction f generalizing v with
  | zero => intro b hb; simp [uvF] at hb; simp [pw] at hv; omega
  | succ f ih =>
    by_cases h : v < 128
    · rw [uvF_small _ _ h]; intro b hb; simp at hb; omega
    · rw [uvF_big _ _ h]
      intro b hb
      rcases List.mem_cons.1 hb with rfl | hb
      · omega
      · exact ih (v / 128) (div_lt hv) b hb
where div_lt {f v : Nat} (hv : v < pw (f + 2)) : v / 128 < pw (f + 1) := Nat.div_lt_of_lt_mul (by rw [Nat.mul_comm]; exact hv)
theorem div_pw {f v : Nat} (hv : v < pw (f + 2)) : v / 128 < pw (f + 1) := Nat.div_lt_of_lt_mul (by rw [Nat.mul_comm]; exact hv)
theorem u64_pw {v : Nat} (hv : v < 18446744073709551616) : v < pw 10 := Nat.lt_of_lt_of_le hv (by decide)
theorem uv_byte (v : Nat) (hv : v < 18446744073709551616) : ∀ b ∈ uv v, b < 256 := uvF_byte 9 v (u64_pw hv)

/-- reading: x of the low i digits, v' the rest -/
theorem step_val (v x i v' : Nat) (h : v = x + v' * pw i) : v = (x + v' % 128 * pw i) + v' / 128 * pw (i + 1) := by
  have e : v' = v' / 128 * 128 + v' % 128 := by omega
  have : v' * pw i = v' % 128 * pw i + v' / 128 * pw (i + 1) := by
    show _ = _ + v' / 128 * (pw i * 128)
    rw [← Nat.mul_assoc, Nat.mul_right_comm, ← Nat.add_mul]
    congr 1; omega
  omega
theorem step_lt (x i d : Nat) (hx : x < pw i) (hd : d < 128) : x + d * pw i < pw (i + 1) := by
  show _ < pw i * 128
  have h1 : d * pw i ≤ 127 * pw i := Nat.mul_le_mul_right _ (by omega)
  have h2 : pw i * 128 = 127 * pw i + pw i := by rw [Nat.mul_comm]; omega
  omega
end Go.Proofs.Qxb6604343a.Wire
