import Derived.Test.YbulkxgcDoorPlan
namespace Go.Proofs.YbulkxgcDoor.Dc
open Go.RowKit
open _root_.Go.Proofs.YbulkxgcDoor.Bt

/-- a fresh decoder's cells -/
def zeroD : Array Value := #[.slice none 0 0, .int .i64 0, .int .i64 0, .int .u64 0, .int .u64 0, .int .i64 0, .int .i64 0, .int .u8 0, .bool false]

set_option maxHeartbeats 1000000 in
set_option maxRecDepth 100000 in
theorem newDecoder_any (b o : Nat) (so : Option Addr) (l c n : Nat) (f : Int) (w : World) (h0 : w.cell? ⟨b, o, none⟩ = some (.slice so l c)) (h1 : w.cell? ⟨b, o + 1, none⟩ = some (.int .i32 n)) (h3 : w.cell? ⟨b, o + 3, none⟩ = some (.int .i64 f)) (hn : n ≤ 2000) :
    Calls Ybad.prog 11 #[.pointer (some ⟨b, o, none⟩)] w fun e w' => e = .returned (.agg #[.slice so l c, .int .i64 0, .int .i64 n, .int .u64 (IntKind.u64.wrap f), .int .u64 0, .int .i64 0, .int .i64 0, .int .u8 0, .bool true]) ∧ Below w.heap.size w w' := by
  have hlt : b < w.heap.size := World.block_lt_of_cell? _ _ h0
  obtain ⟨w0, hw0⟩ : ∃ w0, w0 = w.alloc (.cells zeroD 58) := ⟨_, rfl⟩
  have hB0 : Below w.heap.size w w0 := by rw [hw0]; exact (Below.refl _ _).alloc (Nat.le_refl _) _
  have hG0 : w0.heap[w.heap.size]? = some (.cells zeroD 58 (0, 0)) := by rw [hw0]; exact heap_alloc_new w _
  have k0 : w0.cell? ⟨b, o, none⟩ = _ := (hB0.cell hlt).trans h0
  have k1 : w0.cell? ⟨b, o + 1, none⟩ = _ := (hB0.cell hlt).trans h1
  have k3 : w0.cell? ⟨b, o + 3, none⟩ = _ := (hB0.cell hlt).trans h3
  have HW : Hid (w0 = w.alloc (.cells zeroD 58)) := hw0
  clear hw0 h0 h1 h3
  have z : ∀ i v, zeroD[i]? = some v → w0.cell? ⟨w.heap.size, i, none⟩ = some v := fun i v hv => (cell_of_row w0 w.heap.size i _ 58 (0, 0) hG0).trans hv
  have z0 := z 0 _ rfl
  have z1 := z 1 _ rfl
  have z2 := z 2 _ rfl
  have z3 := z 3 _ rfl
  have z4 := z 4 _ rfl
  have z5 := z 5 _ rfl
  have z6 := z 6 _ rfl
  have z7 := z 7 _ rfl
  have z8 := z 8 _ rfl
  have fz : ∀ i, w0.frozen? ⟨w.heap.size, i, none⟩ = false := fun i => frozen_of_row w0 w.heap.size i _ 58 hG0
  clear z
  go_enter Ybad.func11, Ybad.ntmps11
  go_wp2_with fail
  rw [show w.alloc (.cells #[.slice none 0 0, .int .i64 0, .int .i64 0, .int .u64 0, .int .u64 0, .int .i64 0, .int .i64 0, .int .u8 0, .bool false] 58) = w0 from HW.out.symm]
  go_region
  go_wp2
  refine bodyPost_ret (v := .agg #[.slice so l c, .int .i64 0, .int .i64 n, .int .u64 (IntKind.u64.wrap f), .int .u64 0, .int .i64 0, .int .i64 0, .int .u8 0, .bool true]) (by simp [results, Ybad.results11, go_sem, z0, z1, z2, z3, z4, z5, z6, z7, z8]) rfl ⟨rfl, (((((((((hB0.setCell (Nat.le_refl _) _).setCell (Nat.le_refl _) _).setCell (Nat.le_refl _) _).setCell (Nat.le_refl _) _).setCell (Nat.le_refl _) _).setCell (Nat.le_refl _) _).setCell (Nat.le_refl _) _).setCell (Nat.le_refl _) _).setCell (Nat.le_refl _) _).drew⟩
end Go.Proofs.YbulkxgcDoor.Dc
