import Derived.Test.YbulkxgcDoorShort
namespace Go.Proofs.YbulkxgcDoor.Dc
open Go.RowKit
open _root_.Go.Proofs.YbulkxgcDoor.Bt

theorem peek_any (g nb cap off : Nat) (bs : List Bool) (w : World) (hd : ByteRow w g nb cap bs) (hlen : bs.length ≤ 100000) (hoff : off < bs.length) :
    Calls Ybad.prog 23 #[.slice (some ⟨g, 0, none⟩) nb cap, .int .i64 off] w fun e w' => ∃ X : Nat, e = .returned (.int .u64 X) ∧ Look bs off X ∧ Below w.heap.size w w' := by
  by_cases h : off / 8 + 8 ≤ nb
  · exact peek_long g nb cap off bs w hd hlen h
  · exact peek_short g nb cap off bs w hd hlen (by omega) hoff

/-- the cursor's cells: nothing in pts; run; k; the decoder: data, off, left, t, step, m, dm, mode 0, first; left -/
def Cur (w : World) (bc : Nat) (vr : Value) (kk : Int) (vd : Value) (off left : Nat) (t step m dm : Int) (first : Bool) (cl : Nat) : Prop :=
  w.heap[bc]? = some (.cells #[.slice none 0 0, vr, .int .i64 kk, vd, .int .i64 off, .int .i64 left, .int .u64 t, .int .u64 step, .int .i64 m, .int .i64 dm, .int .u8 0, .bool first, .int .i64 cl] 60 (0, 0))

section
variable {w : World} {bc : Nat} {vr : Value} {kk : Int} {vd : Value} {off left : Nat} {t step m dm : Int} {first : Bool} {cl : Nat}

theorem Cur.cRun (h : Cur w bc vr kk vd off left t step m dm first cl) : w.cell? ⟨bc, 1, none⟩ = some vr := by rw [cell_of_row w bc 1 _ 60 (0, 0) h]; rfl
theorem Cur.cK (h : Cur w bc vr kk vd off left t step m dm first cl) : w.cell? ⟨bc, 2, none⟩ = some (.int .i64 kk) := by rw [cell_of_row w bc 2 _ 60 (0, 0) h]; rfl
theorem Cur.cData (h : Cur w bc vr kk vd off left t step m dm first cl) : w.cell? ⟨bc, 3, none⟩ = some vd := by rw [cell_of_row w bc 3 _ 60 (0, 0) h]; rfl
theorem Cur.cOff (h : Cur w bc vr kk vd off left t step m dm first cl) : w.cell? ⟨bc, 4, none⟩ = some (.int .i64 off) := by rw [cell_of_row w bc 4 _ 60 (0, 0) h]; rfl
theorem Cur.cLeft (h : Cur w bc vr kk vd off left t step m dm first cl) : w.cell? ⟨bc, 5, none⟩ = some (.int .i64 left) := by rw [cell_of_row w bc 5 _ 60 (0, 0) h]; rfl
theorem Cur.cT (h : Cur w bc vr kk vd off left t step m dm first cl) : w.cell? ⟨bc, 6, none⟩ = some (.int .u64 t) := by rw [cell_of_row w bc 6 _ 60 (0, 0) h]; rfl
theorem Cur.cStep (h : Cur w bc vr kk vd off left t step m dm first cl) : w.cell? ⟨bc, 7, none⟩ = some (.int .u64 step) := by rw [cell_of_row w bc 7 _ 60 (0, 0) h]; rfl
theorem Cur.cM (h : Cur w bc vr kk vd off left t step m dm first cl) : w.cell? ⟨bc, 8, none⟩ = some (.int .i64 m) := by rw [cell_of_row w bc 8 _ 60 (0, 0) h]; rfl
theorem Cur.cDm (h : Cur w bc vr kk vd off left t step m dm first cl) : w.cell? ⟨bc, 9, none⟩ = some (.int .i64 dm) := by rw [cell_of_row w bc 9 _ 60 (0, 0) h]; rfl
theorem Cur.cMode (h : Cur w bc vr kk vd off left t step m dm first cl) : w.cell? ⟨bc, 10, none⟩ = some (.int .u8 0) := by rw [cell_of_row w bc 10 _ 60 (0, 0) h]; rfl
theorem Cur.cFirst (h : Cur w bc vr kk vd off left t step m dm first cl) : w.cell? ⟨bc, 11, none⟩ = some (.bool first) := by rw [cell_of_row w bc 11 _ 60 (0, 0) h]; rfl
theorem Cur.cCl (h : Cur w bc vr kk vd off left t step m dm first cl) : w.cell? ⟨bc, 12, none⟩ = some (.int .i64 cl) := by rw [cell_of_row w bc 12 _ 60 (0, 0) h]; rfl
theorem Cur.free (h : Cur w bc vr kk vd off left t step m dm first cl) (o : Nat) : w.frozen? ⟨bc, o, none⟩ = false := frozen_of_row w bc o _ 60 h
theorem Cur.lt (h : Cur w bc vr kk vd off left t step m dm first cl) : bc < w.heap.size := lt_of_block h

theorem Cur.setK (h : Cur w bc vr kk vd off left t step m dm first cl) (x : Int) : Cur (w.setCell ⟨bc, 2, none⟩ (.int .i64 x)) bc vr x vd off left t step m dm first cl := heap_setCell_same w bc 2 _ 60 (.int .i64 x) h
theorem Cur.setOff (h : Cur w bc vr kk vd off left t step m dm first cl) (x : Nat) : Cur (w.setCell ⟨bc, 4, none⟩ (.int .i64 x)) bc vr kk vd x left t step m dm first cl := heap_setCell_same w bc 4 _ 60 (.int .i64 x) h
theorem Cur.setLeft (h : Cur w bc vr kk vd off left t step m dm first cl) (x : Nat) : Cur (w.setCell ⟨bc, 5, none⟩ (.int .i64 x)) bc vr kk vd off x t step m dm first cl := heap_setCell_same w bc 5 _ 60 (.int .i64 x) h
theorem Cur.setT (h : Cur w bc vr kk vd off left t step m dm first cl) (x : Int) : Cur (w.setCell ⟨bc, 6, none⟩ (.int .u64 x)) bc vr kk vd off left x step m dm first cl := heap_setCell_same w bc 6 _ 60 (.int .u64 x) h
theorem Cur.setStep (h : Cur w bc vr kk vd off left t step m dm first cl) (x : Int) : Cur (w.setCell ⟨bc, 7, none⟩ (.int .u64 x)) bc vr kk vd off left t x m dm first cl := heap_setCell_same w bc 7 _ 60 (.int .u64 x) h
theorem Cur.setM (h : Cur w bc vr kk vd off left t step m dm first cl) (x : Int) : Cur (w.setCell ⟨bc, 8, none⟩ (.int .i64 x)) bc vr kk vd off left t step x dm first cl := heap_setCell_same w bc 8 _ 60 (.int .i64 x) h
theorem Cur.setDm (h : Cur w bc vr kk vd off left t step m dm first cl) (x : Int) : Cur (w.setCell ⟨bc, 9, none⟩ (.int .i64 x)) bc vr kk vd off left t step m x first cl := heap_setCell_same w bc 9 _ 60 (.int .i64 x) h
theorem Cur.setMode (h : Cur w bc vr kk vd off left t step m dm first cl) : Cur (w.setCell ⟨bc, 10, none⟩ (.int .u8 0)) bc vr kk vd off left t step m dm first cl := heap_setCell_same w bc 10 _ 60 (.int .u8 0) h
theorem Cur.setFirst (h : Cur w bc vr kk vd off left t step m dm first cl) (x : Bool) : Cur (w.setCell ⟨bc, 11, none⟩ (.bool x)) bc vr kk vd off left t step m dm x cl := heap_setCell_same w bc 11 _ 60 (.bool x) h
theorem Cur.setCl (h : Cur w bc vr kk vd off left t step m dm first cl) (x : Nat) : Cur (w.setCell ⟨bc, 12, none⟩ (.int .i64 x)) bc vr kk vd off left t step m dm first x := heap_setCell_same w bc 12 _ 60 (.int .i64 x) h
theorem Cur.below {w' : World} (h : Cur w bc vr kk vd off left t step m dm first cl) (hb : Below w.heap.size w w') : Cur w' bc vr kk vd off left t step m dm first cl := by
  unfold Cur; rw [hb.block bc h.lt]; exact h
end

/-- of what was there at most the block bc has turned -/
structure Kp (bc : Nat) (w w' : World) : Prop where
  os : w'.os = w.os
  tape : w'.tape = w.tape
  output : w'.output = w.output
  size : w.heap.size ≤ w'.heap.size
  block : ∀ k, k < w.heap.size → k ≠ bc → w'.heap[k]? = w.heap[k]?

theorem Kp.refl (bc : Nat) (w : World) : Kp bc w w := ⟨rfl, rfl, rfl, Nat.le_refl _, fun _ _ _ => rfl⟩
theorem Kp.trans {bc : Nat} {a b c : World} (h : Kp bc a b) (k : Kp bc b c) : Kp bc a c :=
  ⟨k.os.trans h.os, k.tape.trans h.tape, k.output.trans h.output, Nat.le_trans h.size k.size, fun i hi hn => (k.block i (Nat.lt_of_lt_of_le hi h.size) hn).trans (h.block i hi hn)⟩
theorem Kp.of_below {bc : Nat} {w w' : World} (h : Below w.heap.size w w') : Kp bc w w' := ⟨h.os, h.tape, h.output, h.size, fun k hk _ => h.block k hk⟩
theorem Kp.drew {bc : Nat} {a w : World} (h : Kp bc a w) : Kp bc a w.drew := ⟨h.os, h.tape, h.output, h.size, h.block⟩
theorem Kp.drewN {bc : Nat} {a w : World} (h : Kp bc a w) (n : Nat) : Kp bc a (w.drewN n) := ⟨h.os, h.tape, h.output, h.size, h.block⟩
theorem Kp.set {bc : Nat} {a w : World} (h : Kp bc a w) (o : Nat) (u : Value) : Kp bc a (w.setCell ⟨bc, o, none⟩ u) :=
  h.trans ⟨rfl, rfl, rfl, by simp [World.setCell], fun _ _ hn => Below.heap_setCell _ _ _ _ hn⟩
theorem Kp.alloc {bc : Nat} {a w : World} (h : Kp bc a w) (o : Obj) : Kp bc a (w.alloc o) :=
  h.trans ⟨rfl, rfl, rfl, by simp, fun k hk _ => Below.heap_alloc _ _ _ hk⟩
theorem Kp.bytes {bc g nb cap : Nat} {bs : List Bool} {w w' : World} (h : Kp bc w w') (hd : ByteRow w g nb cap bs) (hne : g ≠ bc) : ByteRow w' g nb cap bs :=
  ⟨Nat.lt_of_lt_of_le hd.lt h.size, hd.hnb, hd.le, fun i hi => by rw [World.cell?_of_block (w := w) (h.block g hd.lt hne)]; exact hd.cell i hi⟩

/-- the decoder of a chunk: its bits in memory, the cursor's state -/
structure Ds (w : World) (bc g nb cap : Nat) (bs : List Bool) (vr : Value) (kk : Int) (off left : Nat) (t step m dm : Int) (first : Bool) (cl : Nat) : Prop where
  cur : Cur w bc vr kk (.slice (some ⟨g, 0, none⟩) nb cap) off left t step m dm first cl
  row : ByteRow w g nb cap bs
  ne : g ≠ bc
  len : bs.length ≤ 100000

set_option maxHeartbeats 1000000 in
set_option maxRecDepth 100000 in
theorem dpeek (bc g nb cap : Nat) (bs : List Bool) (vr : Value) (kk : Int) (off left : Nat) (t step m dm : Int) (first : Bool) (cl : Nat) (w : World) (h : Ds w bc g nb cap bs vr kk off left t step m dm first cl) (hoff : off < bs.length) :
    Calls Ybad.prog 15 #[.pointer (some ⟨bc, 3, none⟩)] w fun e w' => ∃ X : Nat, e = .returned (.int .u64 X) ∧ Look bs off X ∧ Below w.heap.size w w' := by
  have c0 := h.cur.cData
  have c1 := h.cur.cOff
  have hp := peek_any g nb cap off bs w.drew (h.row.kept (Below.refl _ _).drew) h.len hoff
  have HP := show Hid _ from hp
  clear hp
  go_enter Ybad.func15, Ybad.ntmps15
  go_wp2
  go_region_with (go_at_call 23; refine Calls.mono (Hid.out HP) ?_; rintro e w' ⟨X, rfl, hL, hB⟩)
  all_goals go_wp2
  all_goals go_ret
  all_goals exact ⟨X, rfl, hL, ((Below.refl _ _).drew).trans hB⟩
end Go.Proofs.YbulkxgcDoor.Dc
