import Derived.Test.YbulkxgcDoorVal
namespace Go.Proofs.YbulkxgcDoor.Dc
open Go.RowKit
open _root_.Go.Proofs.YbulkxgcDoor.Bt
open _root_.Go.Proofs.YbulkxgcDoor.Flt

/-- a point -/
def pt (t m : Int) : Value := .agg #[.int .i64 t, .float .f64 (F m)]

theorem Kp.row {bc B : Nat} {w w' : World} {cs : Array Value} {ty : TypeId} (h : Kp bc w w') (hn : B ≠ bc) (hb : w.heap[B]? = some (.cells cs ty (0, 0))) : w'.heap[B]? = some (.cells cs ty (0, 0)) :=
  (h.block B (lt_of_block hb) hn).trans hb

theorem Kp.new {bc B : Nat} {a w : World} (h : Kp bc a w) (hB : a.heap.size ≤ B) (o : Nat) (u : Value) : Kp bc a (w.setCell ⟨B, o, none⟩ u) :=
  ⟨h.os, h.tape, h.output, by simpa [World.setCell] using h.size, fun k hk hn => (Below.heap_setCell _ _ _ _ (by show k ≠ B; omega)).trans (h.block k hk hn)⟩

theorem Ds.other {w : World} {bc g nb cap : Nat} {bs : List Bool} {vr : Value} {kk : Int} {off left : Nat} {t step m dm : Int} {first : Bool} {cl : Nat} (h : Ds w bc g nb cap bs vr kk off left t step m dm first cl)
    (B o : Nat) (u : Value) (h1 : bc ≠ B) (h2 : g ≠ B) : Ds (w.setCell ⟨B, o, none⟩ u) bc g nb cap bs vr kk off left t step m dm first cl :=
  ⟨(Below.heap_setCell w ⟨B, o, none⟩ u bc h1).trans h.cur, ⟨by simpa [World.setCell] using h.row.lt, h.row.hnb, h.row.le, fun i hi => by rw [World.cell?_of_block (w := w) (Below.heap_setCell w ⟨B, o, none⟩ u g h2)]; exact h.row.cell i hi⟩, h.ne, h.len⟩

theorem st_float (a : Addr) (m : Mode) (w : World) (k : FloatKind) (b : Nat) : (store a (.float k b) m).run Ybad.prog w = stored Ybad.prog w a (.float k b) m := run_store Ybad.prog w a (.float k b) m rfl

set_option maxHeartbeats 1000000 in
set_option maxRecDepth 100000 in
theorem next_first (bc g nb cap : Nat) (bs : List Bool) (vr : Value) (kk : Int) (off left : Nat) (t step m dm : Int) (cl : Nat) (w : World) (h : Ds w bc g nb cap bs vr kk off (left + 1) t step m dm true cl)
    (hl : left ≤ 100000) (z : Nat) (rest : List Bool) (hz : z < 65536) (hb : bs.drop off = bitsOf 0 5 ++ (bitsOf 16 6 ++ (bitsOf z 16 ++ rest)))
    (g1 o1 g2 o2 : Nat) (hg : Gl bc w g1 o1 g2 o2) :
    Calls Ybad.prog 12 #[.pointer (some ⟨bc, 3, none⟩)] w fun e w' => e = .returned (pt (IntKind.i64.wrap t) (unz z)) ∧ Ds w' bc g nb cap bs vr kk (off + 27) left t step (unz z) 0 false cl ∧ Kp bc w w' := by
  have hz2 : (unz z).natAbs ≤ 2147483648 := by unfold unz; split <;> omega
  have HF : Hid (∀ w1, Ds w1 bc g nb cap bs vr kk off left t step m dm false cl → Calls Ybad.prog 13 #[.pointer (some ⟨bc, 3, none⟩)] w1 fun e w' => e = .returned (.tuple #[]) ∧ Ds w' bc g nb cap bs vr kk (off + 27) left t step (unz z) 0 false cl ∧ Kp bc w1 w') := fun w1 hd =>
    readFull_any bc g nb cap bs vr kk off left t step m dm false cl w1 hd z rest hz hb
  have HV : Hid (∀ w1, Ds w1 bc g nb cap bs vr kk (off + 27) left t step (unz z) 0 false cl → Gl bc w1 g1 o1 g2 o2 → Calls Ybad.prog 14 #[.pointer (some ⟨bc, 6, none⟩)] w1 fun e w' => e = .returned (.float .f64 (F (unz z))) ∧ ∃ n, w' = w1.drewN n) := fun w1 hd hg =>
    value_any bc g nb cap bs vr kk (off + 27) left t step (unz z) 0 false cl w1 hd hz2 g1 o1 g2 o2 hg
  clear hb
  have hB0 : Below w.heap.size w (w.alloc (.cells #[.int .i64 0, .float .f64 0] 42)) := (Below.refl _ _).alloc (Nat.le_refl _) _
  have hG0 : (w.alloc (.cells #[.int .i64 0, .float .f64 0] 42)).heap[w.heap.size]? = some (.cells #[.int .i64 0, .float .f64 0] 42 (0, 0)) := heap_alloc_new w _
  have h0 := h.below hB0
  have hg0 := hg.kp (Kp.of_below hB0)
  have hK0 := Kp.of_below (bc := bc) hB0
  have hbc : w.heap.size ≠ bc := by have := h.cur.lt; omega
  have hgB : g ≠ w.heap.size := by have := h.row.lt; omega
  clear h hg hB0
  have c5 := h0.cur.cLeft
  have f5 := h0.cur.free 5
  have c11 := h0.cur.cFirst
  have f11 := h0.cur.free 11
  have hsf := st_float
  go_enter Ybad.func12, Ybad.ntmps12
  go_wp2_with fail
  have h1 := (h0.setLeft (x := (left : Int)) rfl).setFirst false
  have hg1 := (hg0.kp (((Kp.refl _ _).set 5 (.int .i64 (left : Int))).set 11 (.bool false)))
  have hK1 := (hK0.set 5 (.int .i64 (left : Int))).set 11 (.bool false)
  have hG1 := Kp.row (((Kp.refl _ _).set 5 (.int .i64 (left : Int))).set 11 (.bool false)) hbc hG0
  refine Calls.mono (Hid.out HF _ h1) ?_
  rintro e w1 ⟨rfl, h2, hK2⟩
  have hg2 := hg1.kp hK2
  have hG2 := hK2.row hbc hG1
  have hK3 := hK1.trans hK2
  clear h0 hg0 hK0 c5 f5 c11 f11 hG0 h1 hg1 hK1 hG1 hK2 HF
  have c6 := h2.cur.cT
  have b0 : w1.cell? ⟨w.heap.size, 0, none⟩ = some (.int .i64 0) := cell_of_row w1 w.heap.size 0 _ 42 (0, 0) hG2
  have b1 : w1.cell? ⟨w.heap.size, 1, none⟩ = some (.float .f64 0) := cell_of_row w1 w.heap.size 1 _ 42 (0, 0) hG2
  have bf := frozen_of_row w1 w.heap.size 0 _ 42 hG2
  have bf1 := frozen_of_row w1 w.heap.size 1 _ 42 hG2
  go_wp2_with fail
  go_region_with (go_at_call 14; refine Calls.mono (Hid.out HV _ h2.drew (hg2.kp (Kp.drew (Kp.refl _ _)))) ?_; rintro e w' ⟨rfl, n, rfl⟩)
  all_goals go_wp2
  all_goals refine bodyPost_ret (v := pt (IntKind.i64.wrap t) (unz z)) (by simp [results, Ybad.results12, go_sem, b0, b1, pt]) rfl ⟨rfl, ((h2.drewN _).other _ _ _ (Ne.symm hbc) hgB).other _ _ _ (Ne.symm hbc) hgB, ((hK3.drewN _).new (Nat.le_refl _) _ _).new (Nat.le_refl _) _ _⟩
end Go.Proofs.YbulkxgcDoor.Dc
