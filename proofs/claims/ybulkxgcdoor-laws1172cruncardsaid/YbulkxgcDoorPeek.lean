import Derived.Test.YbulkxgcDoorBe64
namespace Go.Proofs.YbulkxgcDoor.Dc
open Go.RowKit
open _root_.Go.Proofs.YbulkxgcDoor.Bt

/-- the bytes of the bits, in memory -/
structure ByteRow (w : World) (g nb cap : Nat) (bs : List Bool) : Prop where
  lt : g < w.heap.size
  hnb : nb = (bs.length + 7) / 8
  le : nb ≤ cap
  cell : ∀ i, i < nb → w.cell? ⟨g, i, none⟩ = some (.int .u8 (Bt.byteOf bs i))

theorem ByteRow.kept {w w' : World} {g nb cap : Nat} {bs : List Bool} (h : ByteRow w g nb cap bs) (hb : Below w.heap.size w w') : ByteRow w' g nb cap bs :=
  ⟨Nat.lt_of_lt_of_le h.lt hb.size, h.hnb, h.le, fun i hi => by rw [hb.cell (by exact h.lt)]; exact h.cell i hi⟩

theorem and7 (off : Nat) (h : off < 2 ^ 62) : bits .and .i64 (off : Int) 7 = ((off % 8 : Nat) : Int) := by
  have hk : ∀ n : Int, 0 ≤ n → n < 2 ^ 62 → IntKind.i64.wrap n = n := fun n h0 h1 => by rw [IntKind.wrap_i64]; omega
  have := (bits_nat .i64 62 (by decide) hk off 7 h (by decide)).1
  rw [show ((7 : Nat) : Int) = 7 from rfl, show (7 : Nat) = 2 ^ 3 - 1 from rfl, Nat.and_two_pow_sub_one_eq_mod] at this
  exact this

theorem wrap_shl (V r : Nat) : IntKind.u64.wrap ((V : Int) * 2 ^ r) = ((V * 2 ^ r % 18446744073709551616 : Nat) : Int) := by
  have h : IntKind.u64.wrap ((V : Int) * 2 ^ r) = ((V : Int) * 2 ^ r) % 18446744073709551616 := by simp [IntKind.wrap, IntKind.bits, IntKind.signed]
  rw [h, Int.natCast_emod, Int.natCast_mul, Int.natCast_pow]
  rfl

set_option maxHeartbeats 1000000 in
set_option maxRecDepth 100000 in
theorem peek_long (g nb cap off : Nat) (bs : List Bool) (w : World) (hd : ByteRow w g nb cap bs) (hlen : bs.length ≤ 100000) (hi : off / 8 + 8 ≤ nb) :
    Calls Ybad.prog 23 #[.slice (some ⟨g, 0, none⟩) nb cap, .int .i64 off] w fun e w' => ∃ X : Nat, e = .returned (.int .u64 X) ∧ Look bs off X ∧ Below w.heap.size w w' := by
  obtain ⟨i, hiv⟩ : ∃ i : Nat, (off : Int) / 8 = (i : Int) := ⟨off / 8, by omega⟩
  have hi8 : i + 8 ≤ nb := by omega
  have hnb : nb ≤ 12501 := by have := hd.hnb; omega
  have hle := hd.le
  have HI : Hid (off / 8 = i) := by show _ = _; omega
  have hoff : off ≤ 200000 := by omega
  have hand := and7 off (by omega)
  obtain ⟨r, hrv⟩ : ∃ r : Nat, off % 8 = r := ⟨_, rfl⟩
  have hr8 : r < 8 := by omega
  rw [hrv] at hand
  have HR : Hid (off % 8 = r) := hrv
  clear hrv
  have c : ∀ k, k < 8 → w.cell? ⟨g, i + k, none⟩ = some (.int .u8 (Bt.byteOf bs (i + k))) := fun k hk => hd.cell (i + k) (by omega)
  have hL := look_win bs off
  rw [HI.out, HR.out] at hL
  have hbe := be64 g i (nb - i) (cap - i) _ _ _ _ _ _ _ _ w.drew hd.lt (by omega) (byteOf_lt bs i) (byteOf_lt bs (i + 1)) (byteOf_lt bs (i + 2)) (byteOf_lt bs (i + 3)) (byteOf_lt bs (i + 4)) (byteOf_lt bs (i + 5)) (byteOf_lt bs (i + 6)) (byteOf_lt bs (i + 7))
    (c 0 (by omega)) (c 1 (by omega)) (c 2 (by omega)) (c 3 (by omega)) (c 4 (by omega)) (c 5 (by omega)) (c 6 (by omega)) (c 7 (by omega))
  rw [← win_bytes] at hbe
  generalize win bs i = V at hbe hL
  obtain ⟨X, hX, hLX⟩ : ∃ X : Nat, IntKind.u64.wrap ((V : Int) * 2 ^ r) = (X : Int) ∧ Look bs off X := ⟨_, wrap_shl V r, hL⟩
  have HBE := show Hid _ from hbe
  clear hbe hL c
  go_enter Ybad.func23, Ybad.ntmps23
  go_wp2
  go_region_with (go_at_call 28; refine Calls.mono (Hid.out HBE) ?_; rintro e w' ⟨rfl, hB⟩)
  all_goals go_wp2
  all_goals go_ret
  all_goals exact ⟨X, rfl, hLX, ((Below.refl _ _).drew).trans hB⟩
end Go.Proofs.YbulkxgcDoor.Dc
