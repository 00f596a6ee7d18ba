import Derived.Test.YbulkxgcDoorDec
namespace Go.Proofs.YbulkxgcDoor.Dc
open Go.RowKit
open _root_.Go.Proofs.YbulkxgcDoor.Bt

theorem Ds.below {w w' : World} {bc g nb cap : Nat} {bs : List Bool} {vr : Value} {kk : Int} {off left : Nat} {t step m dm : Int} {first : Bool} {cl : Nat} (h : Ds w bc g nb cap bs vr kk off left t step m dm first cl) (hb : Below w.heap.size w w') : Ds w' bc g nb cap bs vr kk off left t step m dm first cl :=
  ⟨h.cur.below hb, h.row.kept hb, h.ne, h.len⟩

section
variable {w : World} {bc g nb cap : Nat} {bs : List Bool} {vr : Value} {kk : Int} {off left : Nat} {t step m dm : Int} {first : Bool} {cl : Nat}
theorem Ds.drewN (h : Ds w bc g nb cap bs vr kk off left t step m dm first cl) (n : Nat) : Ds (w.drewN n) bc g nb cap bs vr kk off left t step m dm first cl := ⟨h.cur, ⟨h.row.lt, h.row.hnb, h.row.le, h.row.cell⟩, h.ne, h.len⟩
theorem Ds.drew (h : Ds w bc g nb cap bs vr kk off left t step m dm first cl) : Ds w.drew bc g nb cap bs vr kk off left t step m dm first cl := ⟨h.cur, ⟨h.row.lt, h.row.hnb, h.row.le, h.row.cell⟩, h.ne, h.len⟩
theorem Ds.setOff (h : Ds w bc g nb cap bs vr kk off left t step m dm first cl) {x : Int} {y : Nat} (e : x = (y : Int)) : Ds (w.setCell ⟨bc, 4, none⟩ (.int .i64 x)) bc g nb cap bs vr kk y left t step m dm first cl := by
  subst e; exact ⟨h.cur.setOff y, ((Kp.refl bc w).set 4 _).bytes h.row h.ne, h.ne, h.len⟩
theorem Ds.setLeft (h : Ds w bc g nb cap bs vr kk off left t step m dm first cl) {x : Int} {y : Nat} (e : x = (y : Int)) : Ds (w.setCell ⟨bc, 5, none⟩ (.int .i64 x)) bc g nb cap bs vr kk off y t step m dm first cl := by
  subst e; exact ⟨h.cur.setLeft y, ((Kp.refl bc w).set 5 _).bytes h.row h.ne, h.ne, h.len⟩
theorem Ds.setT (h : Ds w bc g nb cap bs vr kk off left t step m dm first cl) (x : Int) : Ds (w.setCell ⟨bc, 6, none⟩ (.int .u64 x)) bc g nb cap bs vr kk off left x step m dm first cl :=
  ⟨h.cur.setT x, ((Kp.refl bc w).set 6 _).bytes h.row h.ne, h.ne, h.len⟩
theorem Ds.setStep (h : Ds w bc g nb cap bs vr kk off left t step m dm first cl) (x : Int) : Ds (w.setCell ⟨bc, 7, none⟩ (.int .u64 x)) bc g nb cap bs vr kk off left t x m dm first cl :=
  ⟨h.cur.setStep x, ((Kp.refl bc w).set 7 _).bytes h.row h.ne, h.ne, h.len⟩
theorem Ds.setM (h : Ds w bc g nb cap bs vr kk off left t step m dm first cl) (x : Int) : Ds (w.setCell ⟨bc, 8, none⟩ (.int .i64 x)) bc g nb cap bs vr kk off left t step x dm first cl :=
  ⟨h.cur.setM x, ((Kp.refl bc w).set 8 _).bytes h.row h.ne, h.ne, h.len⟩
theorem Ds.setDm (h : Ds w bc g nb cap bs vr kk off left t step m dm first cl) (x : Int) : Ds (w.setCell ⟨bc, 9, none⟩ (.int .i64 x)) bc g nb cap bs vr kk off left t step m x first cl :=
  ⟨h.cur.setDm x, ((Kp.refl bc w).set 9 _).bytes h.row h.ne, h.ne, h.len⟩
theorem Ds.setMode (h : Ds w bc g nb cap bs vr kk off left t step m dm first cl) : Ds (w.setCell ⟨bc, 10, none⟩ (.int .u8 0)) bc g nb cap bs vr kk off left t step m dm first cl :=
  ⟨h.cur.setMode, ((Kp.refl bc w).set 10 _).bytes h.row h.ne, h.ne, h.len⟩
theorem Ds.setFirst (h : Ds w bc g nb cap bs vr kk off left t step m dm first cl) (x : Bool) : Ds (w.setCell ⟨bc, 11, none⟩ (.bool x)) bc g nb cap bs vr kk off left t step m dm x cl :=
  ⟨h.cur.setFirst x, ((Kp.refl bc w).set 11 _).bytes h.row h.ne, h.ne, h.len⟩
theorem Ds.setCl (h : Ds w bc g nb cap bs vr kk off left t step m dm first cl) {x : Int} {y : Nat} (e : x = (y : Int)) : Ds (w.setCell ⟨bc, 12, none⟩ (.int .i64 x)) bc g nb cap bs vr kk off left t step m dm first y := by
  subst e; exact ⟨h.cur.setCl y, ((Kp.refl bc w).set 12 _).bytes h.row h.ne, h.ne, h.len⟩
end

theorem ret_int {k : IntKind} {a b : Int} (h : a = b) : Ending.returned (.int k a) = .returned (.int k b) := by rw [h]

theorem drop_lt {bs xs rest : List Bool} {off : Nat} (h : bs.drop off = xs ++ rest) (hx : 0 < xs.length) : off < bs.length := by
  have := congrArg List.length h
  simp at this
  omega

set_option maxHeartbeats 1000000 in
set_option maxRecDepth 100000 in
theorem read_any (bc g nb cap : Nat) (bs : List Bool) (vr : Value) (kk : Int) (off left : Nat) (t step m dm : Int) (first : Bool) (cl : Nat) (w : World) (h : Ds w bc g nb cap bs vr kk off left t step m dm first cl)
    (x wd : Nat) (rest : List Bool) (h0 : 0 < wd) (h56 : wd ≤ 56) (hb : bs.drop off = bitsOf x wd ++ rest) :
    Calls Ybad.prog 20 #[.pointer (some ⟨bc, 3, none⟩), .int .i64 wd] w fun e w' => e = .returned (.int .u64 ((x % 2 ^ wd : Nat) : Int)) ∧ Ds w' bc g nb cap bs vr kk (off + wd) left t step m dm first cl ∧ Kp bc w w' := by
  have hoff : off < bs.length := drop_lt hb (by rw [bitsOf_length]; exact h0)
  have hol : off ≤ 100000 := by have := h.len; omega
  have hpk := dpeek bc g nb cap bs vr kk off left t step m dm first cl w h hoff
  have HPK := show Hid _ from hpk
  have hz : ((wd : Int) == 0) = false := by simp; omega
  clear hpk
  go_enter Ybad.func20, Ybad.ntmps20
  go_wp2_with (go_at_call 15; refine Calls.mono (Hid.out HPK) ?_; rintro e w1 ⟨X, rfl, hL, hB⟩; have h1 := h.below hB; have c1 := h1.cur.cOff; have f1 := h1.cur.free 4)
  go_ret
  refine ⟨ret_int ?_, h1.setOff (by omega), (Kp.of_below hB).set 4 _⟩
  rw [← look_read hL x wd rest h56 hb]
  simp
end Go.Proofs.YbulkxgcDoor.Dc
