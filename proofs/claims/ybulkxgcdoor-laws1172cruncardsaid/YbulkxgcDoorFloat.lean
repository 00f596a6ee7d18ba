import Derived.Laws.FloatArith
namespace Go.Proofs.YbulkxgcDoor.Flt
open Ieee

theorem log2_mul_pow (N d : Nat) (h : N ≠ 0) : (N * 2 ^ d).log2 = N.log2 + d := by
  have h2 : N * 2 ^ d ≠ 0 := Nat.mul_ne_zero h (Nat.ne_of_gt (Nat.two_pow_pos d))
  rw [Nat.log2_eq_iff h2]
  have h3 := (Nat.log2_eq_iff h (k := N.log2)).1 rfl
  constructor
  · rw [Nat.pow_add]; exact Nat.mul_le_mul_right _ h3.1
  · rw [show N.log2 + d + 1 = (N.log2 + 1) + d by omega, Nat.pow_add]; exact Nat.mul_lt_mul_of_pos_right h3.2 (Nat.two_pow_pos d)

theorem cut_exact (neg : Bool) (M δ : Nat) (h : M ≠ 0) : Toward.even.cut neg (M * 2 ^ δ) δ = M := by
  have hl := log2_mul_pow M δ h
  have hm : min δ ((M * 2 ^ δ).log2 + 2) = δ := by rw [hl]; omega
  unfold Toward.cut
  simp only [hm, Nat.one_shiftLeft]
  have hp := Nat.two_pow_pos δ
  rw [Nat.mul_div_cancel _ hp, Nat.mul_mod_left]
  have e2 : (2 ^ δ == 2 * 0) = false := by simp
  simp [e2]

/-- the rung of a whole number below 2^53 -/
def rungOf (N : Nat) : Nat := (N.log2 + 1022) * 4503599627370496 + N * 2 ^ (52 - N.log2)

theorem log2_lt53 {N : Nat} (h0 : N ≠ 0) (h : N < 9007199254740992) : N.log2 ≤ 52 := by
  have := (Nat.log2_lt h0 (k := 53)).2 h
  omega

theorem sig_bounds {N : Nat} (h0 : N ≠ 0) (h : N < 9007199254740992) : 4503599627370496 ≤ N * 2 ^ (52 - N.log2) ∧ N * 2 ^ (52 - N.log2) < 9007199254740992 := by
  have hl := log2_lt53 h0 h
  have h3 := (Nat.log2_eq_iff h0 (k := N.log2)).1 rfl
  constructor
  · calc 4503599627370496 = 2 ^ N.log2 * 2 ^ (52 - N.log2) := by rw [← Nat.pow_add, show N.log2 + (52 - N.log2) = 52 by omega]
      _ ≤ _ := Nat.mul_le_mul_right _ h3.1
  · calc N * 2 ^ (52 - N.log2) < 2 ^ (N.log2 + 1) * 2 ^ (52 - N.log2) := Nat.mul_lt_mul_of_pos_right h3.2 (Nat.two_pow_pos _)
      _ = 9007199254740992 := by rw [← Nat.pow_add, show N.log2 + 1 + (52 - N.log2) = 53 by omega]

theorem nearest_exact (neg : Bool) (N d : Nat) (h0 : N ≠ 0) (h : N < 9007199254740992) : double.nearest neg (N * 2 ^ d) (-(d : Int)) = double.word neg (rungOf N) := by
  have hl := log2_lt53 h0 h
  have hs := sig_bounds h0 h
  have hlg := log2_mul_pow N d h0
  have h2 : N * 2 ^ d ≠ 0 := Nat.mul_ne_zero h0 (Nat.ne_of_gt (Nat.two_pow_pos d))
  have hfb : double.fractionBits = 52 := rfl
  have hlp : double.leastPlace = -1074 := by decide
  have hbin : double.binade = 4503599627370496 := by decide
  have hinf : double.infRung = 2047 * 4503599627370496 := by decide
  have hlast : max (-(d : Int) + ((N * 2 ^ d).log2 : Nat) - (52 : Nat)) (-1074) = (N.log2 : Int) - 52 := by rw [hlg]; omega
  unfold Format.nearest
  rw [if_neg h2]
  simp only [hfb, hlp, hlast, hbin, hinf]
  have hkept : Toward.even.cut neg ((N * 2 ^ d) <<< (-(d : Int) - ((N.log2 : Int) - 52)).toNat) (((N.log2 : Int) - 52) - -(d : Int)).toNat = N * 2 ^ (52 - N.log2) := by
    by_cases hd : d ≤ 52 - N.log2
    · have e1 : (-(d : Int) - ((N.log2 : Int) - 52)).toNat = 52 - N.log2 - d := by omega
      have e2 : (((N.log2 : Int) - 52) - -(d : Int)).toNat = 0 := by omega
      rw [e1, e2, Nat.shiftLeft_eq, Nat.mul_assoc, ← Nat.pow_add, show d + (52 - N.log2 - d) = 52 - N.log2 by omega]
      have := cut_exact neg (N * 2 ^ (52 - N.log2)) 0 (by omega)
      simpa using this
    · have e1 : (-(d : Int) - ((N.log2 : Int) - 52)).toNat = 0 := by omega
      have e2 : (((N.log2 : Int) - 52) - -(d : Int)).toNat = d - (52 - N.log2) := by omega
      rw [e1, e2, Nat.shiftLeft_zero, show N * 2 ^ d = N * 2 ^ (52 - N.log2) * 2 ^ (d - (52 - N.log2)) by rw [Nat.mul_assoc, ← Nat.pow_add, show 52 - N.log2 + (d - (52 - N.log2)) = d by omega]]
      exact cut_exact neg _ _ (by omega)
  rw [hkept]
  have e3 : (((N.log2 : Int) - 52) - -1074).toNat = N.log2 + 1022 := by omega
  rw [e3, Nat.min_eq_left (by omega)]
  rfl

/-- float64(a) -/
def F (a : Int) : Nat := floatOfInt .f64 a

theorem F_zero : F 0 = 0 := by decide
theorem F_eq (a : Int) (h0 : a ≠ 0) (h : a.natAbs < 9007199254740992) : F a = double.word (decide (a < 0)) (rungOf a.natAbs) := by
  have := nearest_exact (decide (a < 0)) a.natAbs 0 (by omega) h
  rw [Nat.pow_zero, Nat.mul_one] at this
  exact this

theorem read_word (neg : Bool) (N : Nat) (h0 : N ≠ 0) (h : N < 9007199254740992) : double.read (double.word neg (rungOf N)) = .number neg (N * 2 ^ (52 - N.log2)) ((N.log2 : Int) - 52) := by
  have hl := log2_lt53 h0 h
  have hs := sig_bounds h0 h
  have hlp : double.leastPlace = -1074 := by decide
  have hbin : double.binade = 4503599627370496 := by decide
  have hinf : double.infRung = 2047 * 4503599627370496 := by decide
  have hsw : double.signWeight = 9223372036854775808 := by decide
  have hr : rungOf N = (N.log2 + 1022) * 4503599627370496 + N * 2 ^ (52 - N.log2) := rfl
  generalize rungOf N = r at *
  generalize N * 2 ^ (52 - N.log2) = s at *
  generalize N.log2 = l at *
  unfold Format.read Format.word
  simp only [hlp, hbin, hinf, hsw]
  have e0 : (if neg = true then 9223372036854775808 + r else r) % 9223372036854775808 = r := by
    cases neg
    · simp; omega
    · simp; omega
  have e1 : ((if neg = true then 9223372036854775808 + r else r) / 9223372036854775808 % 2 == 1) = neg := by
    cases neg
    · simp; omega
    · simp; omega
  rw [e0, e1, if_neg (by omega), if_pos (by omega)]
  have e2 : 4503599627370496 + r % 4503599627370496 = s := by omega
  have e3 : (-1074 : Int) + ((r / 4503599627370496 - 1 : Nat) : Int) = (l : Int) - 52 := by omega
  rw [e2, e3]

theorem read_zero : double.read 0 = .number false 0 (-1074) := by decide

/-- what float64(a) reads as: the very number -/
theorem read_F (a : Int) (h : a.natAbs < 9007199254740992) : ∃ D : Nat, D ≤ 1074 ∧ double.read (F a) = .number (decide (a < 0)) (a.natAbs * 2 ^ D) (-(D : Int)) := by
  by_cases h0 : a = 0
  · subst h0
    obtain ⟨D, hD⟩ : ∃ D : Nat, D = 1074 := ⟨_, rfl⟩
    refine ⟨D, by omega, ?_⟩
    have e : (-1074 : Int) = -(D : Int) := by omega
    rw [F_zero, read_zero, e]
    simp
  · have hl := log2_lt53 (N := a.natAbs) (by omega) h
    refine ⟨52 - a.natAbs.log2, by omega, ?_⟩
    rw [F_eq a h0 h, read_word _ _ (by omega) h]
    congr 1
    omega

theorem write_int (c : Int) (D : Nat) (h : c.natAbs < 9007199254740992) : double.nearest (decide (c < 0)) (c.natAbs * 2 ^ D) (-(D : Int)) = F c := by
  by_cases h0 : c = 0
  · subst h0
    rw [F_zero]
    simp [Format.nearest, Format.word]
  · rw [nearest_exact _ _ _ (by omega) h, F_eq c h0 h]

theorem signed_int (a : Int) (D E : Nat) (h : D ≤ E) : signed (decide (a < 0)) (a.natAbs * 2 ^ D) (-(D : Int) - -(E : Int)).toNat = a * 2 ^ E := by
  have e : (-(D : Int) - -(E : Int)).toNat = E - D := by omega
  rw [e]
  unfold signed
  rw [Nat.shiftLeft_eq, Nat.mul_assoc, ← Nat.pow_add, show D + (E - D) = E by omega]
  by_cases ha : a < 0
  · simp only [ha, decide_true, if_true]
    rw [Int.natCast_mul, show ((a.natAbs : Nat) : Int) = -a by omega]
    simp [Int.neg_mul]
  · simp only [ha, decide_false]
    rw [Int.natCast_mul, show ((a.natAbs : Nat) : Int) = a by omega]
    simp

theorem mul_pow_neg (c : Int) (E : Nat) : decide (c * 2 ^ E < 0) = decide (c < 0) := by
  have hp : (0 : Int) < 2 ^ E := Int.pow_pos (by decide)
  rw [decide_eq_decide]
  constructor
  · intro h
    by_cases hc : c < 0
    · exact hc
    · have := Int.mul_nonneg (show 0 ≤ c by omega) (Int.le_of_lt hp); omega
  · intro h; exact Int.mul_neg_of_neg_of_pos h hp

theorem add_F (a b : Int) (ha : a.natAbs < 9007199254740992) (hb : b.natAbs < 9007199254740992) (hab : (a + b).natAbs < 9007199254740992) : floatBits .add .f64 (F a) (F b) = some (F (a + b)) := by
  obtain ⟨D, _, hD⟩ := read_F a ha
  obtain ⟨E, _, hE⟩ := read_F b hb
  show ((double.read (F a)).sum (double.read (F b))).map double.write = _
  rw [hD, hE]
  obtain ⟨M, hM, hDM, hEM⟩ : ∃ M : Nat, min (-(D : Int)) (-(E : Int)) = -(M : Int) ∧ D ≤ M ∧ E ≤ M := ⟨max D E, by omega, by omega, by omega⟩
  simp only [Datum.sum, hM, signed_int a D M hDM, signed_int b E M hEM, ← Int.add_mul, Option.map_some]
  have hp : (0 : Int) < 2 ^ M := Int.pow_pos (by decide)
  have hs : (if (a + b) * 2 ^ M = 0 then decide (a < 0) && decide (b < 0) else decide ((a + b) * 2 ^ M < 0)) = decide (a + b < 0) := by
    by_cases h0 : a + b = 0
    · rw [h0, Int.zero_mul, if_pos rfl]
      simp; omega
    · rw [if_neg (by intro h; rcases Int.mul_eq_zero.1 h with h | h <;> omega), mul_pow_neg]
  rw [hs, show ((a + b) * 2 ^ M).natAbs = (a + b).natAbs * 2 ^ M by rw [Int.natAbs_mul, Int.natAbs_pow]; rfl]
  exact congrArg some (write_int (a + b) M hab)

theorem read_zero' : ∃ D : Nat, double.read (F 0) = .number false 0 (-(D : Int)) := ⟨1074, by rw [F_zero, read_zero]; rfl⟩

theorem div_F (k : Nat) (c : Int) (hk : 0 < k) (hk' : k ≤ 4096) (hc : c.natAbs ≤ 2147483648) : floatBits .quo .f64 (F (k * c)) (F k) = some (F c) := by
  show ((double.read (F (k * c))).quotient 54 (double.read (F k))).map double.write = _
  have hkr : double.read (F k) = .number false (k * 2 ^ (52 - k.log2)) ((k.log2 : Int) - 52) := by
    have := read_word false k (by omega) (by omega)
    rw [← this, F_eq k (by omega) (by omega)]
    simp only [Int.natAbs_natCast]
    congr 2
  have hn0 : k * 2 ^ (52 - k.log2) ≠ 0 := Nat.mul_ne_zero (by omega) (Nat.ne_of_gt (Nat.two_pow_pos _))
  by_cases h0 : c = 0
  · subst h0
    obtain ⟨D, hD⟩ := read_zero'
    rw [hkr, Int.mul_zero, hD]
    simp only [Datum.quotient, if_neg hn0, Nat.zero_shiftLeft, Nat.zero_div, Nat.zero_mod]
    simp [Format.write, Format.nearest, Format.word, F_zero]
  · have hN : ((k : Int) * c).natAbs = k * c.natAbs := by rw [Int.natAbs_mul]; rfl
    have hpos : 0 < c.natAbs := by omega
    have hN0 : k * c.natAbs ≠ 0 := Nat.mul_ne_zero (by omega) (by omega)
    have hNlt : k * c.natAbs < 9007199254740992 := by
      have := Nat.mul_le_mul hk' hc; omega
    have hsign : decide ((k : Int) * c < 0) = decide (c < 0) := by
      rw [decide_eq_decide]
      constructor
      · intro h
        by_cases hc0 : c < 0
        · exact hc0
        · have := Int.mul_nonneg (show (0 : Int) ≤ k by omega) (show 0 ≤ c by omega); omega
      · intro h; exact Int.mul_neg_of_pos_of_neg (by omega) h
    have hNr : double.read (F (k * c)) = .number (decide (c < 0)) (k * c.natAbs * 2 ^ (52 - (k * c.natAbs).log2)) (((k * c.natAbs).log2 : Int) - 52) := by
      rw [F_eq (k * c) (by intro h; rw [h] at hN; simp at hN; omega) (by rw [hN]; exact hNlt), hN, hsign]
      exact read_word _ _ hN0 hNlt
    have hlN := log2_lt53 hN0 hNlt
    have hlk := log2_lt53 (N := k) (by omega) (by omega)
    rw [hkr, hNr]
    have g1 := log2_mul_pow (k * c.natAbs) (52 - (k * c.natAbs).log2) hN0
    have g2 := log2_mul_pow k (52 - k.log2) (by omega)
    simp only [Datum.quotient, if_neg hn0, g1, g2]
    generalize (k * c.natAbs).log2 = lN at *
    generalize k.log2 = lk at *
    have e1 : 54 + (lk + (52 - lk)) - (lN + (52 - lN)) = 54 := by omega
    rw [e1, Nat.shiftLeft_eq]
    have e2 : k * c.natAbs * 2 ^ (52 - lN) * 2 ^ 54 = c.natAbs * 2 ^ (lk + 54 - lN) * (k * 2 ^ (52 - lk)) := by
      rw [Nat.mul_assoc, ← Nat.pow_add, show 52 - lN + 54 = (lk + 54 - lN) + (52 - lk) by omega, Nat.pow_add]
      ac_rfl
    rw [e2, Nat.mul_div_cancel _ (Nat.pos_of_ne_zero hn0), Nat.mul_mod_left]
    have e3 : 2 * (c.natAbs * 2 ^ (lk + 54 - lN)) + ((0 : Nat) != 0).toNat = c.natAbs * 2 ^ (lk + 55 - lN) := by
      rw [show lk + 55 - lN = (lk + 54 - lN) + 1 by omega, Nat.pow_succ]
      simp
      ac_rfl
    have e4 : (lN : Int) - 52 - ((lk : Int) - 52) - ((54 : Nat) : Int) - 1 = -((lk + 55 - lN : Nat) : Int) := by omega
    rw [e3, e4]
    simp only [Bool.xor_false, Option.map_some]
    exact congrArg some (write_int c (lk + 55 - lN) (by omega))

theorem order_F (c : Int) (h : c.natAbs < 9007199254740992) : FloatKind.f64.format.order (F c) (F c) = some .eq := by
  obtain ⟨D, _, hD⟩ := read_F c h
  show double.order (F c) (F c) = some .eq
  unfold Format.order
  rw [hD]
  simp [Datum.order]

end Go.Proofs.YbulkxgcDoor.Flt
