import Derived.Test.YbulkxgcDoorBits
namespace Go.Proofs.YbulkxgcDoor.Bt

/-- a look of 56 bits -/
structure Lk (bs : List Bool) (off Y : Nat) : Prop where
  lt : Y < 18446744073709551616
  bit : ∀ j, j < 56 → Y.testBit (63 - j) = bs.getD (off + j) false

theorem Look.lk {bs : List Bool} {off X : Nat} (h : Look bs off X) : Lk bs off X := ⟨h.lt, fun j hj => h.bit j (by omega)⟩

theorem Look.shl {bs : List Bool} {off X : Nat} (h : Look bs off X) (hx : X < 9223372036854775808) : Lk bs (off + 1) (X * 2) :=
  ⟨by omega, fun j hj => by
    have e := h.bit (j + 1) (by omega)
    rw [show off + 1 + j = off + (j + 1) by omega, ← e, show X * 2 = X <<< 1 by rw [Nat.shiftLeft_eq], Nat.testBit_shiftLeft]
    rw [show 63 - j - 1 = 63 - (j + 1) by omega]
    simp [show 63 - j ≥ 1 by omega]⟩

theorem lk_read {bs : List Bool} {off X : Nat} (h : Lk bs off X) (x w : Nat) (rest : List Bool) (hw : w ≤ 55) (hb : bs.drop off = bitsOf x w ++ rest) : X / 2 ^ (64 - w) = x % 2 ^ w := by
  apply Nat.eq_of_testBit_eq
  intro t
  rw [Nat.testBit_div_two_pow, Nat.testBit_mod_two_pow]
  by_cases ht : t < w
  · have e := h.bit (w - 1 - t) (by omega)
    rw [show 63 - (w - 1 - t) = t + (64 - w) by omega] at e
    rw [e]
    have e2 : bs.getD (off + (w - 1 - t)) false = (bs.drop off).getD (w - 1 - t) false := by simp [List.getD]
    rw [e2, hb]
    have e3 : (bitsOf x w ++ rest).getD (w - 1 - t) false = (bitsOf x w).getD (w - 1 - t) false := by
      simp only [List.getD]
      rw [List.getElem?_append_left (by rw [bitsOf_length]; omega)]
    rw [e3, bitsOf_getD _ _ _ (by omega), show w - 1 - (w - 1 - t) = t by omega]
    simp [ht]
  · have hlt : X < 2 ^ (t + (64 - w)) := Nat.lt_of_lt_of_le h.lt (by rw [show (18446744073709551616 : Nat) = 2 ^ 64 from rfl]; exact Nat.pow_le_pow_right (by decide) (by omega))
    rw [Nat.testBit_lt_two_pow hlt]
    simp [ht]

theorem bitsOf_append (a b k l : Nat) (hb : b < 2 ^ l) : bitsOf a k ++ bitsOf b l = bitsOf (2 ^ l * a + b) (k + l) := by
  apply List.ext_getElem
  · simp [bitsOf_length]
  · intro i h1 h2
    rw [bitsOf_length] at h2
    rw [List.getElem_append]
    split
    · rename_i h3
      rw [bitsOf_length] at h3
      simp only [bitsOf, List.getElem_map, List.getElem_range]
      rw [Nat.testBit_two_pow_mul_add _ hb, if_neg (by omega)]
      congr 1; omega
    · rename_i h3
      rw [bitsOf_length] at h3
      simp only [bitsOf, List.getElem_map, List.getElem_range, List.length_map, List.length_range]
      rw [Nat.testBit_two_pow_mul_add _ hb, if_pos (by omega)]
      congr 1; omega

theorem lk_zero {bs : List Bool} {off Y : Nat} (h : Lk bs off Y) (rest : List Bool) (hb : bs.drop off = bitsOf 0 1 ++ rest) : Y < 9223372036854775808 := by
  have := lk_read h 0 1 rest (by omega) hb
  have hl := h.lt
  rw [show (2 : Nat) ^ (64 - 1) = 9223372036854775808 from rfl] at this
  omega

theorem lk_two {bs : List Bool} {off Y : Nat} (h : Lk bs off Y) (rest : List Bool) (hb : bs.drop off = bitsOf 2 2 ++ rest) : 9223372036854775808 ≤ Y := by
  have := lk_read h 2 2 rest (by omega) hb
  rw [show (2 : Nat) ^ (64 - 2) = 4611686018427387904 from rfl] at this
  omega

theorem lk_eight {bs : List Bool} {off Y : Nat} (h : Lk bs off Y) (x : Nat) (hx : x < 256) (rest : List Bool) (hb : bs.drop off = bitsOf 6 3 ++ (bitsOf x 8 ++ rest)) : Y / 9007199254740992 = 1536 + x := by
  rw [← List.append_assoc, bitsOf_append 6 x 3 8 (by omega)] at hb
  have := lk_read h _ _ rest (by omega) hb
  rw [show (2 : Nat) ^ (64 - (3 + 8)) = 9007199254740992 from rfl] at this
  rw [this]
  omega

theorem eight_bits {Y x : Nat} (hx : x < 256) (h : Y / 9007199254740992 = 1536 + x) : Y.testBit 63 = true ∧ Y.testBit 62 = true ∧ Y.testBit 61 = false := by
  rw [Nat.testBit_eq_decide_div_mod_eq, Nat.testBit_eq_decide_div_mod_eq, Nat.testBit_eq_decide_div_mod_eq, decide_eq_true_eq, decide_eq_true_eq, decide_eq_false_iff_not]
  refine ⟨?_, ?_, ?_⟩ <;> omega

/-- eight bits as a signed number -/
def sx8 (x : Nat) : Int := if x < 128 then (x : Int) else (x : Int) - 256
end Go.Proofs.YbulkxgcDoor.Bt
