/-
  THE PLAIN LAW of 'multiply' (checksum.go): polynomials over GF(2) modulo the CRC-32C polynomial, in reflected order. No Go in sight; imports nothing.
-/
namespace Go.Proofs.Qxb6604343a.Poly

abbrev W := BitVec 32

/-- times x -/
def X (b : W) : W := (b >>> 1) ^^^ (if b.getLsbD 0 then 0x82F63B78#32 else 0#32)
/-- times x^k -/
def Xn : Nat → W → W
  | 0, b => b
  | k + 1, b => X (Xn k b)
/-- the first k terms of the product -/
def mulN (a : W) : Nat → W → W
  | 0, _ => 0#32
  | k + 1, b => mulN a k b ^^^ (if a.getLsbD (31 - k) then Xn k b else 0#32)
def mul (a b : W) : W := mulN a 32 b
def e0 : W := 0x80000000#32

/-- linear -/
structure Lin (L : W → W) : Prop where
  add : ∀ x y, L (x ^^^ y) = L x ^^^ L y
theorem Lin.zero {L : W → W} (h : Lin L) : L 0#32 = 0#32 := by
  have := h.add 0#32 0#32
  simpa using this
theorem Lin.ite {L : W → W} (h : Lin L) (c : Bool) (x : W) : L (if c then x else 0#32) = if c then L x else 0#32 := by
  cases c <;> simp [h.zero]

theorem xor_swap (a b c d : W) : (a ^^^ b) ^^^ (c ^^^ d) = (a ^^^ c) ^^^ (b ^^^ d) := by
  simp only [BitVec.xor_assoc]; congr 1
  rw [← BitVec.xor_assoc, BitVec.xor_comm b c, BitVec.xor_assoc]

theorem ite_xor (p q : Bool) (x : W) : (if (p ^^ q) then x else 0#32) = (if p then x else 0#32) ^^^ (if q then x else 0#32) := by
  cases p <;> cases q <;> simp
theorem ite_xor2 (p : Bool) (x y : W) : (if p then x ^^^ y else 0#32) = (if p then x else 0#32) ^^^ (if p then y else 0#32) := by
  cases p <;> simp

theorem lin_X : Lin X := ⟨fun x y => by
  unfold X
  rw [BitVec.ushiftRight_xor_distrib, BitVec.getLsbD_xor, ite_xor, xor_swap]⟩
theorem lin_Xn (k : Nat) : Lin (Xn k) := by
  induction k with
  | zero => exact ⟨fun _ _ => rfl⟩
  | succ k ih => exact ⟨fun x y => by show X (Xn k (x ^^^ y)) = X (Xn k x) ^^^ X (Xn k y); rw [ih.add, lin_X.add]⟩
theorem Xn_X (k : Nat) (b : W) : Xn k (X b) = X (Xn k b) := by
  induction k with
  | zero => rfl
  | succ k ih => show X (Xn k (X b)) = X (X (Xn k b)); rw [ih]

theorem lin_mulN (a : W) (k : Nat) : Lin (mulN a k) := by
  induction k with
  | zero => exact ⟨fun _ _ => by simp [mulN]⟩
  | succ k ih => exact ⟨fun x y => by
      show mulN a k (x ^^^ y) ^^^ _ = (mulN a k x ^^^ _) ^^^ (mulN a k y ^^^ _)
      rw [ih.add, (lin_Xn k).add, ite_xor2, xor_swap]⟩
theorem mulN_xor (a c : W) (k : Nat) (b : W) : mulN (a ^^^ c) k b = mulN a k b ^^^ mulN c k b := by
  induction k with
  | zero => simp [mulN]
  | succ k ih =>
      show mulN (a ^^^ c) k b ^^^ _ = (mulN a k b ^^^ _) ^^^ (mulN c k b ^^^ _)
      rw [ih, BitVec.getLsbD_xor, ite_xor, xor_swap]

/-- a linear map that goes past X goes past every product -/
theorem past (L : W → W) (h : Lin L) (hX : ∀ x, L (X x) = X (L x)) (c : W) (k : Nat) (e : W) : L (mulN c k e) = mulN c k (L e) := by
  have hn : ∀ j x, L (Xn j x) = Xn j (L x) := by
    intro j x
    induction j with
    | zero => rfl
    | succ j ih => show L (X (Xn j x)) = X (Xn j (L x)); rw [hX, ih]
  induction k with
  | zero => exact h.zero
  | succ k ih => show L (mulN c k e ^^^ _) = mulN c k (L e) ^^^ _; rw [h.add, ih, h.ite, hn]

/-- two linear maps that agree on the powers of x agree -/
theorem agree_mulN (L M : W → W) (hL : Lin L) (hM : Lin M) (e : W) (k : Nat) (h : ∀ j, j < k → L (Xn j e) = M (Xn j e)) (c : W) : L (mulN c k e) = M (mulN c k e) := by
  induction k with
  | zero => show L 0#32 = M 0#32; rw [hL.zero, hM.zero]
  | succ k ih =>
      show L (mulN c k e ^^^ _) = M (mulN c k e ^^^ _)
      rw [hL.add, hM.add, hL.ite, hM.ite, ih (fun j hj => h j (by omega)), h k (by omega)]

theorem pows : ∀ k : Fin 32, Xn k.1 e0 = BitVec.twoPow 32 (31 - k.1) := by decide +kernel

theorem mulN_e0 (a : W) (k : Nat) (hk : k ≤ 32) (i : Nat) : (mulN a k e0).getLsbD i = (decide (i < 32) && (decide (32 ≤ i + k) && a.getLsbD i)) := by
  induction k with
  | zero => by_cases h : i < 32 <;> simp [mulN, h] <;> omega
  | succ k ih =>
      show (mulN a k e0 ^^^ _).getLsbD i = _
      rw [BitVec.getLsbD_xor, ih (by omega), pows ⟨k, by omega⟩]
      have e : (if a.getLsbD (31 - k) = true then BitVec.twoPow 32 (31 - k) else 0#32).getLsbD i = (decide (i = 31 - k) && a.getLsbD i) := by
        by_cases hi : i = 31 - k
        · subst hi; cases h : a.getLsbD (31 - k) <;> simp [BitVec.getLsbD_twoPow]; omega
        · cases h : a.getLsbD (31 - k)
          · simp [hi]
          · simp [BitVec.getLsbD_twoPow, hi]; omega
      rw [e]
      by_cases h32 : i < 32
      · by_cases h1 : 32 ≤ i + k
        · have : ¬ i = 31 - k := by omega
          have h2 : 32 ≤ i + (k + 1) := by omega
          simp [h32, h1, this, h2]
        · by_cases hi : i = 31 - k
          · have h2 : 32 ≤ i + (k + 1) := by omega
            rw [decide_eq_true h32, decide_eq_true h2, decide_eq_true hi, decide_eq_false h1]; simp
          · have h2 : ¬ 32 ≤ i + (k + 1) := by omega
            simp [h1, hi, h2]
      · have : ¬ i = 31 - k := by omega
        simp [h32, this]

theorem mul_e0 (a : W) : mul a e0 = a := by
  apply BitVec.eq_of_getLsbD_eq
  intro i hi
  show (mulN a 32 e0).getLsbD i = _
  rw [mulN_e0 a 32 (by omega)]
  simp [hi]

theorem lin_mul (a : W) : Lin (mul a) := lin_mulN a 32
theorem mul_X (a b : W) : mul a (X b) = X (mul a b) := (past X lin_X (fun _ => rfl) a 32 b).symm
theorem mul_swap (d c e : W) : mul d (mul c e) = mul c (mul d e) := past (mul d) (lin_mul d) (mul_X d) c 32 e
theorem mul_comm (a b : W) : mul a b = mul b a := by
  have := mul_swap a b e0
  rwa [mul_e0, mul_e0] at this
theorem e0_mul (a : W) : mul e0 a = a := by rw [mul_comm, mul_e0]
theorem mul_assoc (a b c : W) : mul (mul a b) c = mul a (mul b c) := by
  rw [mul_comm, mul_swap, mul_comm c b]
theorem mul_add (a b c : W) : mul a (b ^^^ c) = mul a b ^^^ mul a c := (lin_mul a).add b c
theorem mul_x31 : mul 1#32 0x40000000#32 = 0x82F63B78#32 := by decide +kernel

/-- two linear maps that agree on the powers of x agree everywhere -/
theorem agree (L M : W → W) (hL : Lin L) (hM : Lin M) (h : ∀ j, j < 32 → L (Xn j e0) = M (Xn j e0)) (c : W) : L c = M c := by
  have := agree_mulN L M hL hM e0 32 h c
  have e : mulN c 32 e0 = c := mul_e0 c
  rwa [e] at this

/-! ### the plain product: zzRev32B1, zzGFMulB1 -/
/-- zzRev32B1's loop: k rounds; (r, x) -/
def revN : Nat → W → W × W
  | 0, x => (0#32, x)
  | k + 1, x => (((revN k x).1 <<< 1) ||| ((revN k x).2 &&& 1#32), (revN k x).2 >>> 1)
def rev (x : W) : W := (revN 32 x).1

theorem revN_snd (k : Nat) (x : W) : (revN k x).2 = x >>> k := by
  induction k with
  | zero => simp [revN]
  | succ k ih => show (revN k x).2 >>> 1 = _; rw [ih, BitVec.shiftRight_add]
theorem revN_fst (k : Nat) (hk : k ≤ 32) (x : W) (i : Nat) : (revN k x).1.getLsbD i = (decide (i < k) && x.getLsbD (k - 1 - i)) := by
  induction k generalizing i with
  | zero => simp [revN]
  | succ k ih =>
      show (((revN k x).1 <<< 1) ||| ((revN k x).2 &&& 1#32)).getLsbD i = _
      rw [BitVec.getLsbD_or, BitVec.getLsbD_and, BitVec.getLsbD_shiftLeft, revN_snd, ih (by omega), BitVec.getLsbD_ushiftRight]
      by_cases h0 : i = 0
      · subst h0; simp
      · have e1 : (1#32).getLsbD i = false := by simp [BitVec.getLsbD_one, h0]
        rw [e1]
        by_cases h1 : i < k + 1
        · have h3 : i < 32 := by omega
          have h4 : ¬ i < 1 := by omega
          have h5 : i - 1 < k := by omega
          have h6 : k - 1 - (i - 1) = k - i := by omega
          have h7 : k + 1 - 1 - i = k - i := by omega
          simp [h1, h3, h0, h5, h6]
        · have h5 : ¬ i - 1 < k := by omega
          simp [h1, h5]
theorem rev_bit (x : W) (i : Nat) (hi : i < 32) : (rev x).getLsbD i = x.getLsbD (31 - i) := by
  show (revN 32 x).1.getLsbD i = _
  rw [revN_fst 32 (by omega)]; simp [hi]
theorem lin_rev : Lin rev := ⟨fun x y => by
  apply BitVec.eq_of_getLsbD_eq
  intro i hi
  rw [BitVec.getLsbD_xor, rev_bit _ _ hi, rev_bit _ _ hi, rev_bit _ _ hi, BitVec.getLsbD_xor]⟩

abbrev V := BitVec 64
def up (a : W) : V := a.setWidth 64
/-- the first loop: k rounds -/
def clN (a b : W) : Nat → V
  | 0 => 0#64
  | k + 1 => if b.getLsbD k then clN a b k ^^^ (up a <<< k) else clN a b k
/-- the second loop: k rounds, from bit 62 down -/
def redN (p : V) : Nat → V
  | 0 => p
  | k + 1 => if (redN p k).getLsbD (62 - k) then redN p k ^^^ (0x11EDC6F41#64 <<< (30 - k)) else redN p k
def gf (a b : W) : W := (redN (clN a b 32) 31).setWidth 32

theorem redN_xor (p q : V) (k : Nat) : redN (p ^^^ q) k = redN p k ^^^ redN q k := by
  induction k with
  | zero => rfl
  | succ k ih =>
      show (if (redN (p ^^^ q) k).getLsbD (62 - k) then redN (p ^^^ q) k ^^^ _ else redN (p ^^^ q) k) = _
      rw [ih, BitVec.getLsbD_xor]
      show _ = (if (redN p k).getLsbD (62 - k) then redN p k ^^^ _ else redN p k) ^^^ (if (redN q k).getLsbD (62 - k) then redN q k ^^^ _ else redN q k)
      generalize redN p k = P
      generalize redN q k = Q
      generalize (0x11EDC6F41#64 <<< (30 - k)) = C
      cases P.getLsbD (62 - k) <;> cases Q.getLsbD (62 - k)
      · simp
      · simp [BitVec.xor_assoc]
      · simp only [Bool.xor_false, if_true, Bool.false_eq_true, if_false]
        rw [BitVec.xor_assoc, BitVec.xor_comm Q C, ← BitVec.xor_assoc]
      · simp only [Bool.xor_true, Bool.not_true, Bool.false_eq_true, if_false, if_true]
        rw [BitVec.xor_assoc P C, ← BitVec.xor_assoc C Q C, BitVec.xor_comm C Q, BitVec.xor_assoc Q C C, BitVec.xor_self]; simp

theorem up_xor (a b : W) : up (a ^^^ b) = up a ^^^ up b := by unfold up; exact BitVec.setWidth_xor
/-- one column of the product -/
def col (i : Nat) (a : W) : W := rev ((redN (up (rev a) <<< i) 31).setWidth 32)
theorem lin_col (i : Nat) : Lin (col i) := ⟨fun x y => by
  unfold col
  rw [lin_rev.add, up_xor, BitVec.shiftLeft_xor_distrib, redN_xor, BitVec.setWidth_xor, lin_rev.add]⟩

theorem col_pows : ∀ i j : Fin 32, col i.1 (Xn j.1 e0) = Xn i.1 (Xn j.1 e0) := by decide +kernel
theorem col_eq (i : Nat) (hi : i < 32) (a : W) : col i a = Xn i a :=
  agree (col i) (Xn i) (lin_col i) (lin_Xn i) (fun j hj => col_pows ⟨i, hi⟩ ⟨j, hj⟩) a

theorem redN_zero (k : Nat) : redN 0#64 k = 0#64 := by
  have := redN_xor 0#64 0#64 k
  simpa using this
theorem gf_sum (a b : W) (k : Nat) (hk : k ≤ 32) : rev ((redN (clN (rev a) (rev b) k) 31).setWidth 32) = mulN b k a := by
  induction k with
  | zero => show rev ((redN 0#64 31).setWidth 32) = 0#32; rw [redN_zero]; decide +kernel
  | succ k ih =>
      have ih := ih (by omega)
      show rev ((redN (if (rev b).getLsbD k then clN (rev a) (rev b) k ^^^ (up (rev a) <<< k) else clN (rev a) (rev b) k) 31).setWidth 32) = mulN b k a ^^^ (if b.getLsbD (31 - k) then Xn k a else 0#32)
      rw [rev_bit _ _ (by omega)]
      cases b.getLsbD (31 - k)
      · simpa using ih
      · simp only [if_true]
        rw [redN_xor, BitVec.setWidth_xor, lin_rev.add, ih, ← col_eq k (by omega) a]
        rfl
/-- THE LAW: multiply is the product of the reflected polynomials -/
theorem gf_law (a b : W) : rev (gf (rev a) (rev b)) = mul a b := by
  rw [mul_comm]; exact gf_sum a b 32 (by omega)
end Go.Proofs.Qxb6604343a.Poly
