namespace Go.Proofs.YbulkxgcDoor.Bt

/-- the number whose bit j, below k, is f j -/
def num (f : Nat → Bool) : Nat → Nat
  | 0 => 0
  | k + 1 => 2 ^ k * (f k).toNat + num f k

theorem num_lt (f : Nat → Bool) (k : Nat) : num f k < 2 ^ k := by
  induction k with
  | zero => simp [num]
  | succ k ih =>
    simp only [num, Nat.pow_succ]
    cases f k <;> simp <;> omega

theorem testBit_num (f : Nat → Bool) (k j : Nat) : (num f k).testBit j = (decide (j < k) && f j) := by
  induction k with
  | zero => simp [num]
  | succ k ih =>
    rw [num, Nat.testBit_two_pow_mul_add _ (num_lt f k), ih]
    by_cases h : j < k
    · simp [h, show j < k + 1 by omega]
    · by_cases e : j = k
      · subst e; cases f j <;> simp
      · have h1 : ¬ j < k + 1 := by omega
        have h2 : j - k ≠ 0 := by omega
        obtain ⟨d, hd⟩ : ∃ d, j - k = d + 1 := ⟨j - k - 1, by omega⟩
        rw [if_neg h, hd]
        simp [h1]
        cases f k <;> simp [Nat.testBit_succ]

theorem num_congr (f g : Nat → Bool) (k : Nat) (h : ∀ j, j < k → f j = g j) : num f k = num g k := by
  apply Nat.eq_of_testBit_eq
  intro j
  rw [testBit_num, testBit_num]
  by_cases hj : j < k
  · rw [h j hj]
  · simp [hj]

theorem num_add (f : Nat → Bool) (k l : Nat) : num f (k + l) = num f k + 2 ^ k * num (fun j => f (k + j)) l := by
  induction l with
  | zero => simp [num]
  | succ l ih =>
    rw [← Nat.add_assoc, num, ih, num, Nat.pow_add, Nat.mul_add, Nat.mul_assoc]
    omega

/-- the k bits of x, the highest first -/
def bitsOf (x k : Nat) : List Bool := (List.range k).map fun i => x.testBit (k - 1 - i)

theorem bitsOf_length (x k : Nat) : (bitsOf x k).length = k := by simp [bitsOf]
theorem bitsOf_getD (x k i : Nat) (h : i < k) : (bitsOf x k).getD i false = x.testBit (k - 1 - i) := by
  simp [bitsOf, List.getD, h]

/-- the i-th byte of the bits -/
def byteOf (bs : List Bool) (i : Nat) : Nat := num (fun j => bs.getD (8 * i + 7 - j) false) 8

theorem byteOf_lt (bs : List Bool) (i : Nat) : byteOf bs i < 256 := num_lt _ 8

theorem getD_snoc (bs : List Bool) (b : Bool) (p : Nat) : (bs ++ [b]).getD p false = if p = bs.length then b else bs.getD p false := by
  by_cases h : p = bs.length
  · subst h; simp [List.getD]
  · rw [if_neg h]
    by_cases h2 : p < bs.length
    · simp [List.getD, List.getElem?_append_left h2]
    · simp [List.getD, List.getElem?_eq_none (show bs.length ≤ p by omega), List.getElem?_eq_none (show (bs ++ [b]).length ≤ p by simp; omega)]

theorem byteOf_false (bs : List Bool) (i : Nat) : byteOf (bs ++ [false]) i = byteOf bs i := by
  refine num_congr _ _ _ fun j _ => ?_
  rw [getD_snoc]
  split
  · next h => rw [h]; simp [List.getD]
  · rfl
theorem byteOf_other (bs : List Bool) (b : Bool) (i : Nat) (h : i ≠ bs.length / 8) : byteOf (bs ++ [b]) i = byteOf bs i := by
  refine num_congr _ _ _ fun j hj => ?_
  rw [getD_snoc, if_neg (by omega)]
theorem byteOf_true (bs : List Bool) : byteOf (bs ++ [true]) (bs.length / 8) = byteOf bs (bs.length / 8) ||| 2 ^ (7 - bs.length % 8) := by
  apply Nat.eq_of_testBit_eq
  intro j
  simp only [byteOf, testBit_num, Nat.testBit_or, Nat.testBit_two_pow]
  by_cases hj : j < 8
  · rw [getD_snoc]
    by_cases e : 8 * (bs.length / 8) + 7 - j = bs.length
    · rw [if_pos e]
      have : 7 - bs.length % 8 = j := by omega
      simp [hj, this]
    · rw [if_neg e]
      have : ¬ 7 - bs.length % 8 = j := by omega
      simp [hj, this]
  · have : ¬ 7 - bs.length % 8 = j := by omega
    simp [hj, this]
theorem byteOf_past (bs : List Bool) (i : Nat) (h : bs.length ≤ 8 * i) : byteOf bs i = 0 := by
  apply Nat.eq_of_testBit_eq
  intro j
  simp only [byteOf, testBit_num, Nat.zero_testBit]
  by_cases hj : j < 8
  · simp [hj, List.getD, List.getElem?_eq_none (show bs.length ≤ 8 * i + 7 - j by omega)]
  · simp [hj]

/-- the 64 bits from byte i on -/
def win (bs : List Bool) (i : Nat) : Nat := num (fun j => bs.getD (8 * i + 63 - j) false) 64

theorem win_bytes (bs : List Bool) (i : Nat) : win bs i = byteOf bs (i + 7) + byteOf bs (i + 6) * 256 + byteOf bs (i + 5) * 65536 + byteOf bs (i + 4) * 16777216 + byteOf bs (i + 3) * 4294967296 + byteOf bs (i + 2) * 1099511627776 + byteOf bs (i + 1) * 281474976710656 + byteOf bs i * 72057594037927936 := by
  have e : ∀ k, k < 8 → num (fun j => bs.getD (8 * i + 63 - (8 * k + j)) false) 8 = byteOf bs (i + (7 - k)) := fun k hk => by
    refine num_congr _ _ _ fun j hj => ?_
    congr 1
    omega
  have e0 := e 0 (by omega); have e1 := e 1 (by omega); have e2 := e 2 (by omega); have e3 := e 3 (by omega)
  have e4 := e 4 (by omega); have e5 := e 5 (by omega); have e6 := e 6 (by omega); have e7 := e 7 (by omega)
  simp only [Nat.mul_zero, Nat.zero_add, Nat.mul_one, Nat.reduceMul, Nat.reduceSub, Nat.add_zero] at e0 e1 e2 e3 e4 e5 e6 e7
  unfold win
  rw [show (64 : Nat) = 8 + (8 + (8 + (8 + (8 + (8 + (8 + 8)))))) from rfl]
  rw [num_add, num_add, num_add, num_add, num_add, num_add, num_add]
  simp only [← Nat.add_assoc, Nat.reduceAdd]
  rw [e0, e1, e2, e3, e4, e5, e6, e7]
  omega

/-- what a look at the bits from 'off' on gives: at the least 57 of them stand at the top -/
structure Look (bs : List Bool) (off X : Nat) : Prop where
  lt : X < 18446744073709551616
  bit : ∀ j, j < 57 → X.testBit (63 - j) = bs.getD (off + j) false

theorem look_win (bs : List Bool) (off : Nat) : Look bs off (win bs (off / 8) * 2 ^ (off % 8) % 18446744073709551616) := by
  refine ⟨Nat.mod_lt _ (by decide), fun j hj => ?_⟩
  rw [show (18446744073709551616 : Nat) = 2 ^ 64 from rfl, Nat.testBit_mod_two_pow, ← Nat.shiftLeft_eq, Nat.testBit_shiftLeft]
  unfold win
  rw [testBit_num]
  have h1 : 63 - j < 64 := by omega
  have h2 : 63 - j ≥ off % 8 := by omega
  have h3 : 63 - j - off % 8 < 64 := by omega
  have h4 : 8 * (off / 8) + 63 - (63 - j - off % 8) = off + j := by omega
  simp [h1, h2, h3, h4]

/-- w bits read -/
theorem look_read {bs : List Bool} {off X : Nat} (h : Look bs off X) (x w : Nat) (rest : List Bool) (hw : w ≤ 56) (hb : bs.drop off = bitsOf x w ++ rest) : X / 2 ^ (64 - w) = x % 2 ^ w := by
  apply Nat.eq_of_testBit_eq
  intro t
  rw [Nat.testBit_div_two_pow, Nat.testBit_mod_two_pow]
  by_cases ht : t < w
  · have e := h.bit (w - 1 - t) (by omega)
    rw [show 63 - (w - 1 - t) = t + (64 - w) by omega] at e
    rw [e]
    have e2 : bs.getD (off + (w - 1 - t)) false = (bs.drop off).getD (w - 1 - t) false := by simp [List.getD]
    rw [e2, hb]
    have e3 : (bitsOf x w ++ rest).getD (w - 1 - t) false = (bitsOf x w).getD (w - 1 - t) false := by
      simp only [List.getD]
      rw [List.getElem?_append_left (by rw [bitsOf_length]; omega)]
    rw [e3, bitsOf_getD _ _ _ (by omega), show w - 1 - (w - 1 - t) = t by omega]
    simp [ht]
  · have hlt : X < 2 ^ (t + (64 - w)) := Nat.lt_of_lt_of_le h.lt (by rw [show (18446744073709551616 : Nat) = 2 ^ 64 from rfl]; exact Nat.pow_le_pow_right (by decide) (by omega))
    rw [Nat.testBit_lt_two_pow hlt]
    simp [ht]

theorem drop_next {bs xs rest : List Bool} {off : Nat} (h : bs.drop off = xs ++ rest) : bs.drop (off + xs.length) = rest := by
  rw [← List.drop_drop, h]; simp

end Go.Proofs.YbulkxgcDoor.Bt
