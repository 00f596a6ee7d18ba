import Derived.Test.YbulkxgcDoorNextA
import Derived.BigRegion
namespace Go.Proofs.YbulkxgcDoor.Dc
open Go.RowKit
open _root_.Go.Proofs.YbulkxgcDoor.Bt
open _root_.Go.Proofs.YbulkxgcDoor.Flt

/-- within 'next', behind the first point: the decoder, the listed variables, the result's own block -/
structure NS (w0 w : World) (bc g nb cap : Nat) (bs : List Bool) (vr : Value) (kk : Int) (off left : Nat) (t step m dm : Int) (cl g1 o1 g2 o2 : Nat) : Prop where
  ds : Ds w bc g nb cap bs vr kk off left t step m dm false cl
  gl : Gl bc w g1 o1 g2 o2
  kp : Kp bc w0 w
  row : w.heap[w0.heap.size]? = some (.cells #[.int .i64 0, .float .f64 0] 42 (0, 0))
  ne : w0.heap.size ≠ bc
  neg : g ≠ w0.heap.size

section
variable {w0 w : World} {bc g nb cap : Nat} {bs : List Bool} {vr : Value} {kk : Int} {off left : Nat} {t step m dm : Int} {cl g1 o1 g2 o2 : Nat}

theorem NS.start (h : Ds w bc g nb cap bs vr kk off left t step m dm false cl) (hg : Gl bc w g1 o1 g2 o2) : NS w (w.alloc (.cells #[.int .i64 0, .float .f64 0] 42)) bc g nb cap bs vr kk off left t step m dm cl g1 o1 g2 o2 :=
  have hB0 : Below w.heap.size w (w.alloc (.cells #[.int .i64 0, .float .f64 0] 42)) := (Below.refl _ _).alloc (Nat.le_refl _) _
  ⟨h.below hB0, hg.kp (Kp.of_below hB0), Kp.of_below hB0, heap_alloc_new w _, by have := h.cur.lt; omega, by have := h.row.lt; omega⟩

theorem NS.go {w' : World} {off' left' : Nat} {t' step' m' dm' : Int} (h : NS w0 w bc g nb cap bs vr kk off left t step m dm cl g1 o1 g2 o2) (hd : Ds w' bc g nb cap bs vr kk off' left' t' step' m' dm' false cl) (hk : Kp bc w w') : NS w0 w' bc g nb cap bs vr kk off' left' t' step' m' dm' cl g1 o1 g2 o2 :=
  ⟨hd, h.gl.kp hk, h.kp.trans hk, hk.row h.ne h.row, h.ne, h.neg⟩
theorem NS.below {w' : World} (h : NS w0 w bc g nb cap bs vr kk off left t step m dm cl g1 o1 g2 o2) (hk : Below w.heap.size w w') : NS w0 w' bc g nb cap bs vr kk off left t step m dm cl g1 o1 g2 o2 :=
  h.go (h.ds.below hk) (Kp.of_below hk)
theorem NS.drewN (h : NS w0 w bc g nb cap bs vr kk off left t step m dm cl g1 o1 g2 o2) (n : Nat) : NS w0 (w.drewN n) bc g nb cap bs vr kk off left t step m dm cl g1 o1 g2 o2 := h.go (h.ds.drewN n) ((Kp.refl _ _).drewN n)
theorem NS.drew (h : NS w0 w bc g nb cap bs vr kk off left t step m dm cl g1 o1 g2 o2) : NS w0 w.drew bc g nb cap bs vr kk off left t step m dm cl g1 o1 g2 o2 := h.go h.ds.drew ((Kp.refl _ _).drew)
theorem NS.setOff (h : NS w0 w bc g nb cap bs vr kk off left t step m dm cl g1 o1 g2 o2) {x : Int} {y : Nat} (e : x = (y : Int)) : NS w0 (w.setCell ⟨bc, 4, none⟩ (.int .i64 x)) bc g nb cap bs vr kk y left t step m dm cl g1 o1 g2 o2 := h.go (h.ds.setOff e) ((Kp.refl _ _).set _ _)
theorem NS.setLeft (h : NS w0 w bc g nb cap bs vr kk off left t step m dm cl g1 o1 g2 o2) {x : Int} {y : Nat} (e : x = (y : Int)) : NS w0 (w.setCell ⟨bc, 5, none⟩ (.int .i64 x)) bc g nb cap bs vr kk off y t step m dm cl g1 o1 g2 o2 := h.go (h.ds.setLeft e) ((Kp.refl _ _).set _ _)
theorem NS.setT (h : NS w0 w bc g nb cap bs vr kk off left t step m dm cl g1 o1 g2 o2) (x : Int) : NS w0 (w.setCell ⟨bc, 6, none⟩ (.int .u64 x)) bc g nb cap bs vr kk off left x step m dm cl g1 o1 g2 o2 := h.go (h.ds.setT x) ((Kp.refl _ _).set _ _)
theorem NS.setStep (h : NS w0 w bc g nb cap bs vr kk off left t step m dm cl g1 o1 g2 o2) (x : Int) : NS w0 (w.setCell ⟨bc, 7, none⟩ (.int .u64 x)) bc g nb cap bs vr kk off left t x m dm cl g1 o1 g2 o2 := h.go (h.ds.setStep x) ((Kp.refl _ _).set _ _)
theorem NS.setM (h : NS w0 w bc g nb cap bs vr kk off left t step m dm cl g1 o1 g2 o2) (x : Int) : NS w0 (w.setCell ⟨bc, 8, none⟩ (.int .i64 x)) bc g nb cap bs vr kk off left t step x dm cl g1 o1 g2 o2 := h.go (h.ds.setM x) ((Kp.refl _ _).set _ _)
theorem NS.setDm (h : NS w0 w bc g nb cap bs vr kk off left t step m dm cl g1 o1 g2 o2) (x : Int) : NS w0 (w.setCell ⟨bc, 9, none⟩ (.int .i64 x)) bc g nb cap bs vr kk off left t step m x cl g1 o1 g2 o2 := h.go (h.ds.setDm x) ((Kp.refl _ _).set _ _)
theorem NS.b0 (h : NS w0 w bc g nb cap bs vr kk off left t step m dm cl g1 o1 g2 o2) : w.cell? ⟨w0.heap.size, 0, none⟩ = some (.int .i64 0) := cell_of_row w w0.heap.size 0 _ 42 (0, 0) h.row
theorem NS.b1 (h : NS w0 w bc g nb cap bs vr kk off left t step m dm cl g1 o1 g2 o2) : w.cell? ⟨w0.heap.size, 1, none⟩ = some (.float .f64 0) := cell_of_row w w0.heap.size 1 _ 42 (0, 0) h.row
theorem NS.bf (h : NS w0 w bc g nb cap bs vr kk off left t step m dm cl g1 o1 g2 o2) (o : Nat) : w.frozen? ⟨w0.heap.size, o, none⟩ = false := frozen_of_row w w0.heap.size o _ 42 h.row
/-- the result written -/
theorem NS.done (h : NS w0 w bc g nb cap bs vr kk off left t step m dm cl g1 o1 g2 o2) (u v : Value) : Ds ((w.setCell ⟨w0.heap.size, 0, none⟩ u).setCell ⟨w0.heap.size, 1, none⟩ v) bc g nb cap bs vr kk off left t step m dm false cl ∧ Kp bc w0 ((w.setCell ⟨w0.heap.size, 0, none⟩ u).setCell ⟨w0.heap.size, 1, none⟩ v) :=
  ⟨(h.ds.other _ _ _ (Ne.symm h.ne) h.neg).other _ _ _ (Ne.symm h.ne) h.neg, (h.kp.new (Nat.le_refl _) _ _).new (Nat.le_refl _) _ _⟩
theorem NS.value (h : NS w0 w bc g nb cap bs vr kk off left t step m dm cl g1 o1 g2 o2) (hm : m.natAbs ≤ 2147483648) :
    Calls Ybad.prog 14 #[.pointer (some ⟨bc, 6, none⟩)] w fun e w' => e = .returned (.float .f64 (F m)) ∧ ∃ n, w' = w.drewN n :=
  value_any bc g nb cap bs vr kk off left t step m dm false cl w h.ds hm g1 o1 g2 o2 h.gl
end
end Go.Proofs.YbulkxgcDoor.Dc
