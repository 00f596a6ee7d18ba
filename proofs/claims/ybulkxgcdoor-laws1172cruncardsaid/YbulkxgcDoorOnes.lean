import Derived.Test.YbulkxgcDoorLen
namespace Go.Proofs.YbulkxgcDoor.Dc
open Go.RowKit
open _root_.Go.Proofs.YbulkxgcDoor.Bt

theorem not64 (X : Nat) (h : X < 18446744073709551616) : bits .xor .u64 IntKind.u64.max (X : Int) = 18446744073709551615 - (X : Int) := by
  have e1 : BitVec.ofInt 64 IntKind.u64.max = BitVec.allOnes 64 := by decide
  have e2 : (BitVec.ofInt 64 (X : Int)).toNat = X := by
    rw [BitVec.toNat_ofInt]; omega
  show IntKind.u64.wrap (((BitVec.ofInt 64 IntKind.u64.max) ^^^ (BitVec.ofInt 64 (X : Int))).toNat : Int) = _
  rw [e1, BitVec.allOnes_xor, BitVec.toNat_not, e2, u64_wrap_id _ (by omega) (by omega)]
  omega

theorem getD_drop (bs : List Bool) (off j : Nat) : bs.getD (off + j) false = (bs.drop off).getD j false := by simp [List.getD]

set_option maxHeartbeats 1000000 in
set_option maxRecDepth 100000 in
theorem ones_one (bc g nb cap : Nat) (bs : List Bool) (vr : Value) (kk : Int) (off left : Nat) (t step m dm : Int) (first : Bool) (cl : Nat) (w : World) (h : Ds w bc g nb cap bs vr kk off left t step m dm first cl)
    (rest : List Bool) (hb : bs.drop off = true :: false :: rest) :
    Calls Ybad.prog 24 #[.pointer (some ⟨bc, 3, none⟩), .int .i64 4] w fun e w' => e = .returned (.int .i64 1) ∧ Ds w' bc g nb cap bs vr kk (off + 2) left t step m dm first cl ∧ Kp bc w w' := by
  have hoff : off < bs.length := drop_lt (xs := [true, false]) (rest := rest) (by rw [hb]; rfl) (by simp)
  have hol : off ≤ 100000 := by have := h.len; omega
  have hpk := dpeek bc g nb cap bs vr kk off left t step m dm first cl w h hoff
  have HPK := show Hid _ from hpk
  clear hpk
  have HLZ : Hid (∀ X w1, Look bs off X → Calls Ybad.prog 18 #[.int .u64 (bits .xor .u64 IntKind.u64.max (X : Int))] w1 fun e w' => e = .returned (.int .i64 1) ∧ w' = w1) := fun X w1 hL => by
    rw [not64 X hL.lt]
    exact lz_one X w1 hL.lt (by have := hL.bit 0 (by omega); rw [getD_drop, hb] at this; exact this) (by have := hL.bit 1 (by omega); rw [getD_drop, hb] at this; exact this)
  clear hb
  go_enter Ybad.func24, Ybad.ntmps24
  go_wp2_with (first
    | (go_at_call 15; refine Calls.mono (Hid.out HPK) ?_; rintro e w1 ⟨X, rfl, hL, hB⟩; have h1 := h.below hB; have c1 := h1.cur.cOff; have f1 := h1.cur.free 4)
    | (go_at_call 18; refine Calls.mono (Hid.out HLZ X _ hL) ?_; rintro e w' ⟨rfl, rfl⟩))
  go_ret
  exact ⟨rfl, (h1.setOff (y := off + 1) (by omega)).setOff (by omega), ((Kp.of_below hB).set 4 _).set 4 _⟩

/-- seven bits as a signed number -/
def sx7 (x : Nat) : Int := if x < 64 then (x : Int) else (x : Int) - 128
theorem sx7_eq (x : Nat) (h : x < 128) : wrap64 ((x : Int) * 144115188075855872) / 144115188075855872 = sx7 x := by
  unfold wrap64 sx7
  split <;> omega

set_option maxHeartbeats 1000000 in
set_option maxRecDepth 100000 in
theorem signed7 (bc g nb cap : Nat) (bs : List Bool) (vr : Value) (kk : Int) (off left : Nat) (t step m dm : Int) (first : Bool) (cl : Nat) (w : World) (h : Ds w bc g nb cap bs vr kk off left t step m dm first cl)
    (x : Nat) (rest : List Bool) (hx : x < 128) (hb : bs.drop off = bitsOf x 7 ++ rest) :
    Calls Ybad.prog 25 #[.pointer (some ⟨bc, 3, none⟩), .int .i64 7] w fun e w' => e = .returned (.int .i64 (sx7 x)) ∧ Ds w' bc g nb cap bs vr kk (off + 7) left t step m dm first cl ∧ Kp bc w w' := by
  have hr := read_any bc g nb cap bs vr kk off left t step m dm first cl w h x 7 rest (by omega) (by omega) hb
  rw [show x % 2 ^ 7 = x from Nat.mod_eq_of_lt hx] at hr
  have HR := show Hid _ from hr
  clear hr hb
  go_enter Ybad.func25, Ybad.ntmps25
  go_wp2_with (go_at_call 20; refine Calls.mono (Hid.out HR) ?_; rintro e w1 ⟨rfl, h1, hK⟩)
  go_ret
  exact ⟨ret_int (sx7_eq x hx), h1, hK⟩

/-- a cell that the decoder's own stores do not turn -/
def Out (bc : Nat) (w : World) (b o : Nat) (v : Value) : Prop := b < w.heap.size ∧ b ≠ bc ∧ w.cell? ⟨b, o, none⟩ = some v
theorem Out.kp {bc : Nat} {w w' : World} {b o : Nat} {v : Value} (h : Out bc w b o v) (hk : Kp bc w w') : Out bc w' b o v :=
  ⟨Nat.lt_of_lt_of_le h.1 hk.size, h.2.1, by rw [World.cell?_of_block (w := w) (hk.block b h.1 h.2.1)]; exact h.2.2⟩

set_option maxHeartbeats 1000000 in
set_option maxRecDepth 100000 in
theorem readClass7 (bc g nb cap : Nat) (bs : List Bool) (vr : Value) (kk : Int) (off left : Nat) (t step m dm : Int) (first : Bool) (cl : Nat) (w : World) (h : Ds w bc g nb cap bs vr kk off left t step m dm first cl)
    (x : Nat) (rest : List Bool) (hx : x < 128) (hb : bs.drop off = bitsOf 2 2 ++ (bitsOf x 7 ++ rest)) (gw ow : Nat) (ho : Out bc w gw (ow + 1) (.int .i64 7)) :
    Calls Ybad.prog 16 #[.pointer (some ⟨bc, 3, none⟩), .slice (some ⟨gw, ow, none⟩) 5 5] w fun e w' => e = .returned (.int .i64 (sx7 x)) ∧ Ds w' bc g nb cap bs vr kk (off + 9) left t step m dm first cl ∧ Kp bc w w' := by
  have h1 := ones_one bc g nb cap bs vr kk off left t step m dm first cl w h (bitsOf x 7 ++ rest) hb
  have hb2 : bs.drop (off + 2) = bitsOf x 7 ++ rest := drop_next (xs := bitsOf 2 2) hb
  have HO := show Hid _ from h1
  have HS : Hid (∀ w1, Ds w1 bc g nb cap bs vr kk (off + 2) left t step m dm first cl → Calls Ybad.prog 25 #[.pointer (some ⟨bc, 3, none⟩), .int .i64 7] w1 fun e w' => e = .returned (.int .i64 (sx7 x)) ∧ Ds w' bc g nb cap bs vr kk (off + 2 + 7) left t step m dm first cl ∧ Kp bc w1 w') := fun w1 hd =>
    signed7 bc g nb cap bs vr kk (off + 2) left t step m dm first cl w1 hd x rest hx hb2
  clear h1 hb hb2
  go_enter Ybad.func16, Ybad.ntmps16
  go_wp2_with (first
    | (go_at_call 24; refine Calls.mono (Hid.out HO) ?_; rintro e w1 ⟨rfl, h1, hK1⟩; have c7 := (ho.kp hK1).2.2)
    | (go_at_call 25; refine Calls.mono (Hid.out HS _ h1) ?_; rintro e w2 ⟨rfl, h2, hK2⟩))
  go_ret
  exact ⟨rfl, h2, hK1.trans hK2⟩
end Go.Proofs.YbulkxgcDoor.Dc
