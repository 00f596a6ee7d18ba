import Derived.Test.YbulkxgcDoorOnes
import Derived.Laws.DeepNot64
import Derived.Lib.Zigzag
namespace Go.Proofs.YbulkxgcDoor.Dc
open Go.RowKit
open _root_.Go.Proofs.YbulkxgcDoor.Bt

/-- a zigzag number read back -/
def unz (z : Nat) : Int := if z % 2 = 0 then ((z / 2 : Nat) : Int) else -1 - ((z / 2 : Nat) : Int)

theorem unz_bits (z : Nat) (hz : z < 65536) : bits .xor .i64 ((z : Int) / 2) (wrap64 (-wrap64 (bits .and .u64 (z : Int) 1))) = unz z := by
  rw [Lib.u64_and1 (z : Int) (by omega) (by omega)]
  have hc : bits .xor .i64 ((z / 2 : Nat) : Int) (-1) = bits .xor .i64 (-1) ((z / 2 : Nat) : Int) := by
    show IntKind.i64.wrap ((BitVec.ofInt 64 ((z / 2 : Nat) : Int) ^^^ BitVec.ofInt 64 (-1)).toNat : Int) = IntKind.i64.wrap ((BitVec.ofInt 64 (-1) ^^^ BitVec.ofInt 64 ((z / 2 : Nat) : Int)).toNat : Int)
    rw [BitVec.xor_comm]
  unfold unz
  have e2 : ((z : Int) / 2) = ((z / 2 : Nat) : Int) := by omega
  rw [e2]
  rcases Nat.mod_two_eq_zero_or_one z with h | h
  · rw [if_pos h, show (z : Int) % 2 = 0 by omega]
    have : wrap64 (-wrap64 0) = 0 := by unfold wrap64; omega
    rw [this]
    show IntKind.i64.wrap ((BitVec.ofInt 64 ((z / 2 : Nat) : Int) ^^^ BitVec.ofInt 64 0).toNat : Int) = _
    rw [show BitVec.ofInt 64 0 = 0#64 from rfl, BitVec.xor_zero, BitVec.toNat_ofInt, IntKind.wrap_i64]
    omega
  · rw [if_neg (by omega), show (z : Int) % 2 = 1 by omega]
    have : wrap64 (-wrap64 1) = -1 := by unfold wrap64; omega
    rw [this, hc, i64_not _ (by omega)]

set_option maxHeartbeats 1000000 in
set_option maxRecDepth 100000 in
theorem readFull_any (bc g nb cap : Nat) (bs : List Bool) (vr : Value) (kk : Int) (off left : Nat) (t step m dm : Int) (first : Bool) (cl : Nat) (w : World) (h : Ds w bc g nb cap bs vr kk off left t step m dm first cl)
    (z : Nat) (rest : List Bool) (hz : z < 65536) (hb : bs.drop off = bitsOf 0 5 ++ (bitsOf 16 6 ++ (bitsOf z 16 ++ rest))) :
    Calls Ybad.prog 13 #[.pointer (some ⟨bc, 3, none⟩)] w fun e w' => e = .returned (.tuple #[]) ∧ Ds w' bc g nb cap bs vr kk (off + 27) left t step (unz z) 0 first cl ∧ Kp bc w w' := by
  have hb2 : bs.drop (off + 5) = bitsOf 16 6 ++ (bitsOf z 16 ++ rest) := by have := drop_next (xs := bitsOf 0 5) hb; rwa [bitsOf_length] at this
  have hb3 : bs.drop (off + 5 + 6) = bitsOf z 16 ++ rest := by have := drop_next (xs := bitsOf 16 6) hb2; rwa [bitsOf_length] at this
  have r1 : Calls Ybad.prog 20 #[.pointer (some ⟨bc, 3, none⟩), .int .i64 5] w fun e w' => e = .returned (.int .u64 0) ∧ Ds w' bc g nb cap bs vr kk (off + 5) left t step m dm first cl ∧ Kp bc w w' :=
    read_any bc g nb cap bs vr kk off left t step m dm first cl w h 0 5 _ (by omega) (by omega) hb
  have r2 : ∀ w1 m dm, Ds w1 bc g nb cap bs vr kk (off + 5) left t step m dm first cl → Calls Ybad.prog 20 #[.pointer (some ⟨bc, 3, none⟩), .int .i64 6] w1 fun e w' => e = .returned (.int .u64 16) ∧ Ds w' bc g nb cap bs vr kk (off + 5 + 6) left t step m dm first cl ∧ Kp bc w1 w' := fun w1 m dm hd =>
    read_any bc g nb cap bs vr kk (off + 5) left t step m dm first cl w1 hd 16 6 _ (by omega) (by omega) hb2
  have r3 : ∀ w1 m dm, Ds w1 bc g nb cap bs vr kk (off + 5 + 6) left t step m dm first cl → Calls Ybad.prog 20 #[.pointer (some ⟨bc, 3, none⟩), .int .i64 16] w1 fun e w' => e = .returned (.int .u64 z) ∧ Ds w' bc g nb cap bs vr kk (off + 5 + 6 + 16) left t step m dm first cl ∧ Kp bc w1 w' := fun w1 m dm hd => by
    have := read_any bc g nb cap bs vr kk (off + 5 + 6) left t step m dm first cl w1 hd z 16 _ (by omega) (by omega) hb3
    rw [show z % 2 ^ 16 = z from Nat.mod_eq_of_lt hz] at this
    exact this
  have R1 : Hid _ := r1
  have R2 : Hid _ := r2
  have R3 : Hid _ := r3
  clear hb hb2 hb3 r1 r2 r3
  go_enter Ybad.func13, Ybad.ntmps13
  go_wp2_with fail
  refine Calls.mono (Hid.out R1) ?_
  rintro e w1 ⟨rfl, h1, hK1⟩
  have f10 := h1.cur.free 10
  have f9 := h1.cur.free 9
  have c10 := h1.cur.cMode
  have c9 := h1.cur.cDm
  have h2 := h1.setMode.setDm 0
  have hK2 := (hK1.set 10 (.int .u8 0)).set 9 (.int .i64 0)
  clear h1 hK1
  have c10' := h2.cur.cMode
  go_wp2_with fail
  refine Calls.mono (Hid.out R2 _ _ _ h2) ?_
  rintro e w3 ⟨rfl, h3, hK3⟩
  go_wp2_with fail
  refine Calls.mono (Hid.out R3 _ _ _ h3) ?_
  rintro e w4 ⟨rfl, h4, hK4⟩
  have c8 := h4.cur.cM
  have f8 := h4.cur.free 8
  go_wp2
  go_end0
  rw [unz_bits z hz]
  exact ⟨rfl, h4.setM _, ((hK2.trans hK3).trans hK4).set 8 _⟩
end Go.Proofs.YbulkxgcDoor.Dc
