import Derived.Test.YbulkxgcDoorCnext
import Derived.Deep.RegionHeld
namespace Go.Proofs.YbulkxgcDoor.Dc
open Go.RowKit
open _root_.Go.Proofs.YbulkxgcDoor.Bt

/-- the cursor's zero -/
def zeroC : Array Value := #[.slice none 0 0, .pointer none, .int .i64 0, .slice none 0 0, .int .i64 0, .int .i64 0, .int .u64 0, .int .u64 0, .int .i64 0, .int .i64 0, .int .u8 0, .bool false, .int .i64 0]

theorem chain13 {B : Nat} {a w : World} (h : Below B a w) (b : Nat) (hb : B ≤ b) (v0 v1 v2 v3 v4 v5 v6 v7 v8 v9 v10 v11 v12 : Value) : Below B a (((((((((((((w.setCell ⟨b, 0, none⟩ v0).setCell ⟨b, 1, none⟩ v1).setCell ⟨b, 2, none⟩ v2).setCell ⟨b, 3, none⟩ v3).setCell ⟨b, 4, none⟩ v4).setCell ⟨b, 5, none⟩ v5).setCell ⟨b, 6, none⟩ v6).setCell ⟨b, 7, none⟩ v7).setCell ⟨b, 8, none⟩ v8).setCell ⟨b, 9, none⟩ v9).setCell ⟨b, 10, none⟩ v10).setCell ⟨b, 11, none⟩ v11).setCell ⟨b, 12, none⟩ v12) := (((((((((((((h.setCell hb v0).setCell hb v1).setCell hb v2).setCell hb v3).setCell hb v4).setCell hb v5).setCell hb v6).setCell hb v7).setCell hb v8).setCell hb v9).setCell hb v10).setCell hb v11).setCell hb v12)

theorem chain13_row {w : World} {b : Nat} (h : w.heap[b]? = some (.cells zeroC 60 (0, 0))) (v0 v1 v2 v3 v4 v5 v6 v7 v8 v9 v10 v11 v12 : Value) : (((((((((((((w.setCell ⟨b, 0, none⟩ v0).setCell ⟨b, 1, none⟩ v1).setCell ⟨b, 2, none⟩ v2).setCell ⟨b, 3, none⟩ v3).setCell ⟨b, 4, none⟩ v4).setCell ⟨b, 5, none⟩ v5).setCell ⟨b, 6, none⟩ v6).setCell ⟨b, 7, none⟩ v7).setCell ⟨b, 8, none⟩ v8).setCell ⟨b, 9, none⟩ v9).setCell ⟨b, 10, none⟩ v10).setCell ⟨b, 11, none⟩ v11).setCell ⟨b, 12, none⟩ v12).heap[b]? = some (.cells #[v0, v1, v2, v3, v4, v5, v6, v7, v8, v9, v10, v11, v12] 60 (0, 0)) := by
  have h0 : (w.setCell ⟨b, 0, none⟩ v0).heap[b]? = some (.cells #[v0, .pointer none, .int .i64 0, .slice none 0 0, .int .i64 0, .int .i64 0, .int .u64 0, .int .u64 0, .int .i64 0, .int .i64 0, .int .u8 0, .bool false, .int .i64 0] 60 (0, 0)) := heap_setCell_same _ b 0 _ 60 v0 h
  have h1 : ((w.setCell ⟨b, 0, none⟩ v0).setCell ⟨b, 1, none⟩ v1).heap[b]? = some (.cells #[v0, v1, .int .i64 0, .slice none 0 0, .int .i64 0, .int .i64 0, .int .u64 0, .int .u64 0, .int .i64 0, .int .i64 0, .int .u8 0, .bool false, .int .i64 0] 60 (0, 0)) := heap_setCell_same _ b 1 _ 60 v1 h0
  have h2 : (((w.setCell ⟨b, 0, none⟩ v0).setCell ⟨b, 1, none⟩ v1).setCell ⟨b, 2, none⟩ v2).heap[b]? = some (.cells #[v0, v1, v2, .slice none 0 0, .int .i64 0, .int .i64 0, .int .u64 0, .int .u64 0, .int .i64 0, .int .i64 0, .int .u8 0, .bool false, .int .i64 0] 60 (0, 0)) := heap_setCell_same _ b 2 _ 60 v2 h1
  have h3 : ((((w.setCell ⟨b, 0, none⟩ v0).setCell ⟨b, 1, none⟩ v1).setCell ⟨b, 2, none⟩ v2).setCell ⟨b, 3, none⟩ v3).heap[b]? = some (.cells #[v0, v1, v2, v3, .int .i64 0, .int .i64 0, .int .u64 0, .int .u64 0, .int .i64 0, .int .i64 0, .int .u8 0, .bool false, .int .i64 0] 60 (0, 0)) := heap_setCell_same _ b 3 _ 60 v3 h2
  have h4 : (((((w.setCell ⟨b, 0, none⟩ v0).setCell ⟨b, 1, none⟩ v1).setCell ⟨b, 2, none⟩ v2).setCell ⟨b, 3, none⟩ v3).setCell ⟨b, 4, none⟩ v4).heap[b]? = some (.cells #[v0, v1, v2, v3, v4, .int .i64 0, .int .u64 0, .int .u64 0, .int .i64 0, .int .i64 0, .int .u8 0, .bool false, .int .i64 0] 60 (0, 0)) := heap_setCell_same _ b 4 _ 60 v4 h3
  have h5 : ((((((w.setCell ⟨b, 0, none⟩ v0).setCell ⟨b, 1, none⟩ v1).setCell ⟨b, 2, none⟩ v2).setCell ⟨b, 3, none⟩ v3).setCell ⟨b, 4, none⟩ v4).setCell ⟨b, 5, none⟩ v5).heap[b]? = some (.cells #[v0, v1, v2, v3, v4, v5, .int .u64 0, .int .u64 0, .int .i64 0, .int .i64 0, .int .u8 0, .bool false, .int .i64 0] 60 (0, 0)) := heap_setCell_same _ b 5 _ 60 v5 h4
  have h6 : (((((((w.setCell ⟨b, 0, none⟩ v0).setCell ⟨b, 1, none⟩ v1).setCell ⟨b, 2, none⟩ v2).setCell ⟨b, 3, none⟩ v3).setCell ⟨b, 4, none⟩ v4).setCell ⟨b, 5, none⟩ v5).setCell ⟨b, 6, none⟩ v6).heap[b]? = some (.cells #[v0, v1, v2, v3, v4, v5, v6, .int .u64 0, .int .i64 0, .int .i64 0, .int .u8 0, .bool false, .int .i64 0] 60 (0, 0)) := heap_setCell_same _ b 6 _ 60 v6 h5
  have h7 : ((((((((w.setCell ⟨b, 0, none⟩ v0).setCell ⟨b, 1, none⟩ v1).setCell ⟨b, 2, none⟩ v2).setCell ⟨b, 3, none⟩ v3).setCell ⟨b, 4, none⟩ v4).setCell ⟨b, 5, none⟩ v5).setCell ⟨b, 6, none⟩ v6).setCell ⟨b, 7, none⟩ v7).heap[b]? = some (.cells #[v0, v1, v2, v3, v4, v5, v6, v7, .int .i64 0, .int .i64 0, .int .u8 0, .bool false, .int .i64 0] 60 (0, 0)) := heap_setCell_same _ b 7 _ 60 v7 h6
  have h8 : (((((((((w.setCell ⟨b, 0, none⟩ v0).setCell ⟨b, 1, none⟩ v1).setCell ⟨b, 2, none⟩ v2).setCell ⟨b, 3, none⟩ v3).setCell ⟨b, 4, none⟩ v4).setCell ⟨b, 5, none⟩ v5).setCell ⟨b, 6, none⟩ v6).setCell ⟨b, 7, none⟩ v7).setCell ⟨b, 8, none⟩ v8).heap[b]? = some (.cells #[v0, v1, v2, v3, v4, v5, v6, v7, v8, .int .i64 0, .int .u8 0, .bool false, .int .i64 0] 60 (0, 0)) := heap_setCell_same _ b 8 _ 60 v8 h7
  have h9 : ((((((((((w.setCell ⟨b, 0, none⟩ v0).setCell ⟨b, 1, none⟩ v1).setCell ⟨b, 2, none⟩ v2).setCell ⟨b, 3, none⟩ v3).setCell ⟨b, 4, none⟩ v4).setCell ⟨b, 5, none⟩ v5).setCell ⟨b, 6, none⟩ v6).setCell ⟨b, 7, none⟩ v7).setCell ⟨b, 8, none⟩ v8).setCell ⟨b, 9, none⟩ v9).heap[b]? = some (.cells #[v0, v1, v2, v3, v4, v5, v6, v7, v8, v9, .int .u8 0, .bool false, .int .i64 0] 60 (0, 0)) := heap_setCell_same _ b 9 _ 60 v9 h8
  have h10 : (((((((((((w.setCell ⟨b, 0, none⟩ v0).setCell ⟨b, 1, none⟩ v1).setCell ⟨b, 2, none⟩ v2).setCell ⟨b, 3, none⟩ v3).setCell ⟨b, 4, none⟩ v4).setCell ⟨b, 5, none⟩ v5).setCell ⟨b, 6, none⟩ v6).setCell ⟨b, 7, none⟩ v7).setCell ⟨b, 8, none⟩ v8).setCell ⟨b, 9, none⟩ v9).setCell ⟨b, 10, none⟩ v10).heap[b]? = some (.cells #[v0, v1, v2, v3, v4, v5, v6, v7, v8, v9, v10, .bool false, .int .i64 0] 60 (0, 0)) := heap_setCell_same _ b 10 _ 60 v10 h9
  have h11 : ((((((((((((w.setCell ⟨b, 0, none⟩ v0).setCell ⟨b, 1, none⟩ v1).setCell ⟨b, 2, none⟩ v2).setCell ⟨b, 3, none⟩ v3).setCell ⟨b, 4, none⟩ v4).setCell ⟨b, 5, none⟩ v5).setCell ⟨b, 6, none⟩ v6).setCell ⟨b, 7, none⟩ v7).setCell ⟨b, 8, none⟩ v8).setCell ⟨b, 9, none⟩ v9).setCell ⟨b, 10, none⟩ v10).setCell ⟨b, 11, none⟩ v11).heap[b]? = some (.cells #[v0, v1, v2, v3, v4, v5, v6, v7, v8, v9, v10, v11, .int .i64 0] 60 (0, 0)) := heap_setCell_same _ b 11 _ 60 v11 h10
  have h12 : (((((((((((((w.setCell ⟨b, 0, none⟩ v0).setCell ⟨b, 1, none⟩ v1).setCell ⟨b, 2, none⟩ v2).setCell ⟨b, 3, none⟩ v3).setCell ⟨b, 4, none⟩ v4).setCell ⟨b, 5, none⟩ v5).setCell ⟨b, 6, none⟩ v6).setCell ⟨b, 7, none⟩ v7).setCell ⟨b, 8, none⟩ v8).setCell ⟨b, 9, none⟩ v9).setCell ⟨b, 10, none⟩ v10).setCell ⟨b, 11, none⟩ v11).setCell ⟨b, 12, none⟩ v12).heap[b]? = some (.cells #[v0, v1, v2, v3, v4, v5, v6, v7, v8, v9, v10, v11, v12] 60 (0, 0)) := heap_setCell_same _ b 12 _ 60 v12 h11
  exact h12
theorem chain13_far {w : World} {b k : Nat} (hk : k ≠ b) (v0 v1 v2 v3 v4 v5 v6 v7 v8 v9 v10 v11 v12 : Value) : (((((((((((((w.setCell ⟨b, 0, none⟩ v0).setCell ⟨b, 1, none⟩ v1).setCell ⟨b, 2, none⟩ v2).setCell ⟨b, 3, none⟩ v3).setCell ⟨b, 4, none⟩ v4).setCell ⟨b, 5, none⟩ v5).setCell ⟨b, 6, none⟩ v6).setCell ⟨b, 7, none⟩ v7).setCell ⟨b, 8, none⟩ v8).setCell ⟨b, 9, none⟩ v9).setCell ⟨b, 10, none⟩ v10).setCell ⟨b, 11, none⟩ v11).setCell ⟨b, 12, none⟩ v12).heap[k]? = w.heap[k]? := by
  rw [Below.heap_setCell _ _ _ _ hk, Below.heap_setCell _ _ _ _ hk, Below.heap_setCell _ _ _ _ hk, Below.heap_setCell _ _ _ _ hk, Below.heap_setCell _ _ _ _ hk, Below.heap_setCell _ _ _ _ hk, Below.heap_setCell _ _ _ _ hk, Below.heap_setCell _ _ _ _ hk, Below.heap_setCell _ _ _ _ hk, Below.heap_setCell _ _ _ _ hk, Below.heap_setCell _ _ _ _ hk, Below.heap_setCell _ _ _ _ hk, Below.heap_setCell _ _ _ _ hk]

theorem newc_rel {w w0 wx : World} {B br n bc : Nat} {so : Option Addr} {l c : Nat} {f : Int} {P1 : List (Int × Int)} (hB0 : Below w.heap.size w w0) (hG0 : w0.heap[w.heap.size]? = some (.cells zeroC 60 (0, 0))) (hx : Below w0.heap.size w0 wx) (hBw : B ≤ w.heap.size) (hbc : w0.heap.size ≤ bc)
    (hrow : wx.heap[bc]? = some (.cells (curCells (.pointer (some ⟨br, 0, none⟩)) 0 (.slice so l c) 0 P1.length ⟨IntKind.u64.wrap f, 0, 0, 0⟩ true n) 60 (0, 0))) (hd : Data w0 B (.slice so l c) 0 ⟨IntKind.u64.wrap f, 0, 0, 0⟩ true P1) :
    ∃ bc', Value.pointer (some ⟨bc, 0, none⟩) = .pointer (some ⟨bc', 0, none⟩) ∧ w.heap.size < bc' ∧ Cs wx B bc' (.pointer (some ⟨br, 0, none⟩)) 0 n P1 ∧ wx.heap[w.heap.size]? = some (.cells zeroC 60 (0, 0)) ∧ Below w.heap.size w wx := by
  have hlt := lt_of_block hG0
  exact ⟨bc, rfl, by omega, ⟨by omega, _, hrow, _, 0, _, true, rfl, hd.below (Below.less hx (by omega))⟩, (hx.block _ hlt).trans hG0, hB0.trans (Below.less hx (by omega))⟩

set_option maxHeartbeats 2000000 in
set_option maxRecDepth 100000 in
theorem newCursor_any (B bser br bch skip n : Nat) (P1 P2 : List (Int × Int)) (w : World) (hsk : skip ≤ P1.length) (he : Env w B br bch skip n P1 P2) (hr : At w B bser 4 (.pointer (some ⟨br, 0, none⟩)))
    (g1 o1 g2 o2 : Nat) (hg : GlB w B g1 o1 g2 o2) :
    Calls Ybad.prog 9 #[.pointer (some ⟨bser, 0, none⟩)] w fun e w' => ∃ cs, e = .returned (.agg cs) ∧ CsV w' B cs (.pointer (some ⟨br, 0, none⟩)) 0 n (P1.drop skip) ∧ Below w.heap.size w w' := by
  obtain ⟨w0, hw0⟩ : ∃ w0, w0 = w.alloc (.cells zeroC 60) := ⟨_, rfl⟩
  have hB0 : Below w.heap.size w w0 := by rw [hw0]; exact (Below.refl _ _).alloc (Nat.le_refl _) _
  have hG0 : w0.heap[w.heap.size]? = some (.cells zeroC 60 (0, 0)) := by rw [hw0]; exact heap_alloc_new w _
  have hsz0 : w.heap.size < w0.heap.size := lt_of_block hG0
  have HW : Hid (w.alloc (.cells zeroC 60) = w0) := hw0.symm
  have hBw := hg.le
  have he0 := he.below (Below.less hB0 hBw)
  have hg0 := hg.below (Below.less hB0 hBw)
  have hr0 := hr.below (Below.less hB0 hBw)
  have HEw := show Hid _ from he
  have HGw := show Hid _ from hg
  have HRw := show Hid _ from hr
  clear he hg hr hw0
  have c4 := hr0.2
  have cb := he0.ch.2
  have cn := he0.nn.2
  have ck := he0.sk.2
  have HE := show Hid _ from he0
  obtain ⟨so, l, c, f, x1, x2, x3, hl1, hdat⟩ := he0.c1
  have HN : Hid (∀ w1, Below w0.heap.size w0 w1 → Calls Ybad.prog 11 #[.pointer (some ⟨bch, 0, none⟩)] w1 fun e w' => e = .returned (.agg #[.slice so l c, .int .i64 0, .int .i64 P1.length, .int .u64 (IntKind.u64.wrap f), .int .u64 0, .int .i64 0, .int .i64 0, .int .u8 0, .bool true]) ∧ Below w1.heap.size w1 w') := fun w1 h1 =>
    newDecoder_any bch 0 so l c P1.length f w1 (x1.below (Below.less h1 hg0.le)).2 (x2.below (Below.less h1 hg0.le)).2 (x3.below (Below.less h1 hg0.le)).2 (by omega)
  have HK : Hid (∀ wx, Below w0.heap.size w0 wx → wx.cell? ⟨bser, 4, none⟩ = some (.pointer (some ⟨br, 0, none⟩)) ∧ wx.cell? ⟨br, 0, none⟩ = some (.slice (some ⟨bch, 0, none⟩) 2 2) ∧ wx.cell? ⟨br, 2, none⟩ = some (.int .i64 n)) := fun wx hx =>
    ⟨(hr0.below (Below.less hx hg0.le)).2, (he0.ch.below (Below.less hx hg0.le)).2, (he0.nn.below (Below.less hx hg0.le)).2⟩
  clear x1 x2 x3 he0
  go_enter Ybad.func9, Ybad.ntmps9
  have c4' : (w.alloc (.cells zeroC 60)).cell? ⟨bser, 4, none⟩ = some (.pointer (some ⟨br, 0, none⟩)) := by rw [HW.out]; exact c4
  unfold zeroC at c4'
  go_upto_region 3 with fail
  rw [show w.alloc (.cells #[.slice none 0 0, .pointer none, .int .i64 0, .slice none 0 0, .int .i64 0, .int .i64 0, .int .u64 0, .int .u64 0, .int .i64 0, .int .i64 0, .int .u8 0, .bool false, .int .i64 0] 60) = w0 from HW.out]
  clear c4'
  have HG0 := show Hid _ from hG0
  clear hG0
  have HS0 := show Hid _ from hsz0
  clear hsz0
  -- REGION 3
  go_cut [3] from 14 to 34 (fun v3 wx => ∃ bc, v3 = .pointer (some ⟨bc, 0, none⟩) ∧ w.heap.size < bc ∧ Cs wx B bc (.pointer (some ⟨br, 0, none⟩)) 0 n P1 ∧ wx.heap[w.heap.size]? = some (.cells zeroC 60 (0, 0)) ∧ Below w.heap.size w wx)
  case first =>
    refine wp_region_held_drew (S := (fun wx => wx.cell? ⟨bser, 4, none⟩ = some (.pointer (some ⟨br, 0, none⟩)) ∧ wx.cell? ⟨br, 0, none⟩ = some (.slice (some ⟨bch, 0, none⟩) 2 2) ∧ wx.cell? ⟨br, 2, none⟩ = some (.int .i64 n))) (by kernel_rfl) (HK.out _ (Below.refl _ _).drew) (fun hHeld => ?_)
    refine wpAnyH_take (i := 0) (v := .pointer (some ⟨bser, 0, none⟩)) rfl (by kernel_rfl) (by kernel_rfl) (by kernel_rfl) (fun _ _ _ h => h) (Or.inl ⟨by rfl, fun wx hSw => by (try dsimp only at hSw); go_simp⟩) (by assumption) ?_
    simp only [Act.put, List.getElem_toArray, List.getElem_cons_zero, List.setIfInBounds_toArray, List.set_cons_zero, List.set_cons_succ]
    refine wpAnyH_take (i := 1) (v := .pointer (some ⟨bser, 0, none⟩)) rfl (by kernel_rfl) (by kernel_rfl) (by kernel_rfl) (fun _ _ _ h => h) (Or.inl ⟨by rfl, fun wx hSw => by (try dsimp only at hSw); go_simp⟩) (by assumption) ?_
    simp only [Act.put, List.getElem_toArray, List.getElem_cons_zero, List.getElem_cons_succ, List.setIfInBounds_toArray, List.set_cons_zero, List.set_cons_succ]
    refine wpAnyH_take (i := 2) (v := .pointer (some ⟨bser, 4, none⟩)) rfl (by kernel_rfl) (by kernel_rfl) (by kernel_rfl) (fun _ _ _ h => h) (Or.inl ⟨by rfl, fun wx hSw => by (try dsimp only at hSw); go_simp⟩) (by assumption) ?_
    simp only [Act.put, List.getElem_toArray, List.getElem_cons_zero, List.getElem_cons_succ, List.setIfInBounds_toArray, List.set_cons_zero, List.set_cons_succ]
    refine wpAnyH_take (i := 3) (v := .pointer (some ⟨br, 0, none⟩)) rfl (by kernel_rfl) (by kernel_rfl) (by kernel_rfl) (fun _ _ _ h => h) (Or.inl ⟨by rfl, fun wx hSw => by (try dsimp only at hSw); go_simp⟩) (by assumption) ?_
    simp only [Act.put, List.getElem_toArray, List.getElem_cons_zero, List.getElem_cons_succ, List.setIfInBounds_toArray, List.set_cons_zero, List.set_cons_succ]
    refine wpAnyH_take (i := 4) (v := .pointer (some ⟨bser, 0, none⟩)) rfl (by kernel_rfl) (by kernel_rfl) (by kernel_rfl) (fun _ _ _ h => h) (Or.inl ⟨by rfl, fun wx hSw => by (try dsimp only at hSw); go_simp⟩) (by assumption) ?_
    simp only [Act.put, List.getElem_toArray, List.getElem_cons_zero, List.getElem_cons_succ, List.setIfInBounds_toArray, List.set_cons_zero, List.set_cons_succ]
    refine wpAnyH_take (i := 5) (v := .pointer (some ⟨bser, 0, none⟩)) rfl (by kernel_rfl) (by kernel_rfl) (by kernel_rfl) (fun _ _ _ h => h) (Or.inl ⟨by rfl, fun wx hSw => by (try dsimp only at hSw); go_simp⟩) (by assumption) ?_
    simp only [Act.put, List.getElem_toArray, List.getElem_cons_zero, List.getElem_cons_succ, List.setIfInBounds_toArray, List.set_cons_zero, List.set_cons_succ]
    refine wpAnyH_take (i := 6) (v := .pointer (some ⟨bser, 4, none⟩)) rfl (by kernel_rfl) (by kernel_rfl) (by kernel_rfl) (fun _ _ _ h => h) (Or.inl ⟨by rfl, fun wx hSw => by (try dsimp only at hSw); go_simp⟩) (by assumption) ?_
    simp only [Act.put, List.getElem_toArray, List.getElem_cons_zero, List.getElem_cons_succ, List.setIfInBounds_toArray, List.set_cons_zero, List.set_cons_succ]
    refine wpAnyH_take (i := 7) (v := .pointer (some ⟨br, 0, none⟩)) rfl (by kernel_rfl) (by kernel_rfl) (by kernel_rfl) (fun _ _ _ h => h) (Or.inl ⟨by rfl, fun wx hSw => by (try dsimp only at hSw); go_simp⟩) (by assumption) ?_
    simp only [Act.put, List.getElem_toArray, List.getElem_cons_zero, List.getElem_cons_succ, List.setIfInBounds_toArray, List.set_cons_zero, List.set_cons_succ]
    refine wpAnyH_take (i := 8) (v := .pointer (some ⟨br, 0, none⟩)) rfl (by kernel_rfl) (by kernel_rfl) (by kernel_rfl) (fun _ _ _ h => h) (Or.inl ⟨by rfl, fun wx hSw => by (try dsimp only at hSw); go_simp⟩) (by assumption) ?_
    simp only [Act.put, List.getElem_toArray, List.getElem_cons_zero, List.getElem_cons_succ, List.setIfInBounds_toArray, List.set_cons_zero, List.set_cons_succ]
    refine wpAnyH_take (i := 9) (v := .pointer (some ⟨br, 0, none⟩)) rfl (by kernel_rfl) (by kernel_rfl) (by kernel_rfl) (fun _ _ _ h => h) (Or.inl ⟨by rfl, fun wx hSw => by (try dsimp only at hSw); go_simp⟩) (by assumption) ?_
    simp only [Act.put, List.getElem_toArray, List.getElem_cons_zero, List.getElem_cons_succ, List.setIfInBounds_toArray, List.set_cons_zero, List.set_cons_succ]
    refine wpAnyH_take (i := 10) (v := .slice (some ⟨bch, 0, none⟩) 2 2) rfl (by kernel_rfl) (by kernel_rfl) (by kernel_rfl) (fun _ _ _ h => h) (Or.inl ⟨by rfl, fun wx hSw => by (try dsimp only at hSw); go_simp⟩) (by assumption) ?_
    simp only [Act.put, List.getElem_toArray, List.getElem_cons_zero, List.getElem_cons_succ, List.setIfInBounds_toArray, List.set_cons_zero, List.set_cons_succ]
    refine wpAnyH_take (i := 11) (v := .pointer (some ⟨bch, 0, none⟩)) rfl (by kernel_rfl) (by kernel_rfl) (by kernel_rfl) (fun _ _ _ h => h) (Or.inl ⟨by rfl, fun wx hSw => by (try dsimp only at hSw); go_simp⟩) (by assumption) ?_
    simp only [Act.put, List.getElem_toArray, List.getElem_cons_zero, List.getElem_cons_succ, List.setIfInBounds_toArray, List.set_cons_zero, List.set_cons_succ]
    refine wpAnyH_take (i := 13) (v := .pointer (some ⟨bser, 0, none⟩)) rfl (by kernel_rfl) (by kernel_rfl) (by kernel_rfl) (fun _ _ _ h => h) (Or.inl ⟨by rfl, fun wx hSw => by (try dsimp only at hSw); go_simp⟩) (by assumption) ?_
    simp only [Act.put, List.getElem_toArray, List.getElem_cons_zero, List.getElem_cons_succ, List.setIfInBounds_toArray, List.set_cons_zero, List.set_cons_succ]
    refine wpAnyH_take (i := 14) (v := .pointer (some ⟨bser, 0, none⟩)) rfl (by kernel_rfl) (by kernel_rfl) (by kernel_rfl) (fun _ _ _ h => h) (Or.inl ⟨by rfl, fun wx hSw => by (try dsimp only at hSw); go_simp⟩) (by assumption) ?_
    simp only [Act.put, List.getElem_toArray, List.getElem_cons_zero, List.getElem_cons_succ, List.setIfInBounds_toArray, List.set_cons_zero, List.set_cons_succ]
    refine wpAnyH_take (i := 15) (v := .pointer (some ⟨bser, 4, none⟩)) rfl (by kernel_rfl) (by kernel_rfl) (by kernel_rfl) (fun _ _ _ h => h) (Or.inl ⟨by rfl, fun wx hSw => by (try dsimp only at hSw); go_simp⟩) (by assumption) ?_
    simp only [Act.put, List.getElem_toArray, List.getElem_cons_zero, List.getElem_cons_succ, List.setIfInBounds_toArray, List.set_cons_zero, List.set_cons_succ]
    refine wpAnyH_take (i := 16) (v := .pointer (some ⟨br, 0, none⟩)) rfl (by kernel_rfl) (by kernel_rfl) (by kernel_rfl) (fun _ _ _ h => h) (Or.inl ⟨by rfl, fun wx hSw => by (try dsimp only at hSw); go_simp⟩) (by assumption) ?_
    simp only [Act.put, List.getElem_toArray, List.getElem_cons_zero, List.getElem_cons_succ, List.setIfInBounds_toArray, List.set_cons_zero, List.set_cons_succ]
    refine wpAnyH_take (i := 17) (v := .pointer (some ⟨br, 0, none⟩)) rfl (by kernel_rfl) (by kernel_rfl) (by kernel_rfl) (fun _ _ _ h => h) (Or.inl ⟨by rfl, fun wx hSw => by (try dsimp only at hSw); go_simp⟩) (by assumption) ?_
    simp only [Act.put, List.getElem_toArray, List.getElem_cons_zero, List.getElem_cons_succ, List.setIfInBounds_toArray, List.set_cons_zero, List.set_cons_succ]
    refine wpAnyH_take (i := 18) (v := .pointer (some ⟨br, 2, none⟩)) rfl (by kernel_rfl) (by kernel_rfl) (by kernel_rfl) (fun _ _ _ h => h) (Or.inl ⟨by rfl, fun wx hSw => by (try dsimp only at hSw); go_simp⟩) (by assumption) ?_
    simp only [Act.put, List.getElem_toArray, List.getElem_cons_zero, List.getElem_cons_succ, List.setIfInBounds_toArray, List.set_cons_zero, List.set_cons_succ]
    refine wpAnyH_take (i := 19) (v := .int .i64 n) rfl (by kernel_rfl) (by kernel_rfl) (by kernel_rfl) (fun _ _ _ h => h) (Or.inl ⟨by rfl, fun wx hSw => by (try dsimp only at hSw); go_simp⟩) (by assumption) ?_
    simp only [Act.put, List.getElem_toArray, List.getElem_cons_zero, List.getElem_cons_succ, List.setIfInBounds_toArray, List.set_cons_zero, List.set_cons_succ]
    refine wpAnyH_ready (rs := [12, 21]) (by kernel_rfl) (by simp) ?_
    refine AllReadyH.cons rfl (fun K hK => ?_) ?_
    · go_simp
      refine Calls.mono (Hid.out HN _ (Below.refl _ w0).drew) ?_
      rintro e w' ⟨rfl, hb'⟩
      have hb2 : Below w0.heap.size w0 w' := Below.trans (Below.refl _ w0).drew hb'
      dsimp only
      refine hK.out _ _ (HK.out _ hb2) (fun hHeld2 => ?_)
      clear hK K
      refine wpAnyH_take (i := 20) (v := .agg #[.slice none 0 0, .pointer (some ⟨br, 0, none⟩), .int .i64 0, .slice so l c, .int .i64 0, .int .i64 P1.length, .int .u64 (IntKind.u64.wrap f), .int .u64 0, .int .i64 0, .int .i64 0, .int .u8 0, .bool true, .int .i64 n]) rfl (by kernel_rfl) (by kernel_rfl) (by kernel_rfl) (fun _ _ _ h => h) (Or.inl ⟨by rfl, fun wx hSw => by (try dsimp only at hSw); go_simp⟩) (by assumption) ?_
      simp only [Act.put, List.getElem_toArray, List.getElem_cons_zero, List.getElem_cons_succ, List.setIfInBounds_toArray, List.set_cons_zero, List.set_cons_succ]
      refine wpAnyH_ready (rs := [21]) (by kernel_rfl) (by simp) ?_
      refine AllReadyH.cons rfl (fun K hK => ?_) AllReadyH.nil
      go_simp
      refine hK.out _ _ (HK.out _ (hb2.alloc hb2.size _)) (fun hHeld3 => ?_)
      clear hK K
      refine wpAnyH_ready (rs := [22]) (by kernel_rfl) (by simp) ?_
      refine AllReadyH.cons rfl (fun K hK => ?_) AllReadyH.nil
      go_simp
      refine hK.out _ _ (HK.out _ (hb2.alloc hb2.size _)) (fun hHeld4 => ?_)
      clear hK K
      refine wpAnyH_done (by kernel_rfl) ?_ _
      go_wp2_with fail
      go_meet
      exact newc_rel hB0 HG0.out (hb2.alloc hb2.size _) hBw hb2.size (heap_alloc_new w' _) hdat
    · refine AllReadyH.cons rfl (fun K hK => ?_) AllReadyH.nil
      go_simp
      refine hK.out _ _ (HK.out _ ((Below.refl _ w0).alloc (Nat.le_refl _) _).drew) (fun hHeld2 => ?_)
      clear hK K
      refine wpAnyH_ready (rs := [12]) (by kernel_rfl) (by simp) ?_
      refine AllReadyH.cons rfl (fun K hK => ?_) AllReadyH.nil
      go_simp
      refine Calls.mono (Hid.out HN _ ((Below.refl _ w0).alloc (Nat.le_refl _) _).drew) ?_
      rintro e w' ⟨rfl, hb'⟩
      have hb2 : Below w0.heap.size w0 w' := Below.trans ((Below.refl w0.heap.size w0).alloc (Nat.le_refl _) _).drew (Below.less hb' (by simp))
      have hGn : w'.heap[w0.heap.size]? = some (.cells zeroC 60 (0, 0)) := (hb'.block w0.heap.size (by simp)).trans (heap_alloc_new w0 _)
      have z0 : w'.cell? ⟨w0.heap.size, 0, none⟩ = some (.slice none 0 0) := cell_of_row _ _ 0 _ 60 (0, 0) hGn
      have z1 : w'.cell? ⟨w0.heap.size, 1, none⟩ = some (.pointer none) := cell_of_row _ _ 1 _ 60 (0, 0) hGn
      have z2 : w'.cell? ⟨w0.heap.size, 2, none⟩ = some (.int .i64 0) := cell_of_row _ _ 2 _ 60 (0, 0) hGn
      have z3 : w'.cell? ⟨w0.heap.size, 3, none⟩ = some (.slice none 0 0) := cell_of_row _ _ 3 _ 60 (0, 0) hGn
      have z4 : w'.cell? ⟨w0.heap.size, 4, none⟩ = some (.int .i64 0) := cell_of_row _ _ 4 _ 60 (0, 0) hGn
      have z5 : w'.cell? ⟨w0.heap.size, 5, none⟩ = some (.int .i64 0) := cell_of_row _ _ 5 _ 60 (0, 0) hGn
      have z6 : w'.cell? ⟨w0.heap.size, 6, none⟩ = some (.int .u64 0) := cell_of_row _ _ 6 _ 60 (0, 0) hGn
      have z7 : w'.cell? ⟨w0.heap.size, 7, none⟩ = some (.int .u64 0) := cell_of_row _ _ 7 _ 60 (0, 0) hGn
      have z8 : w'.cell? ⟨w0.heap.size, 8, none⟩ = some (.int .i64 0) := cell_of_row _ _ 8 _ 60 (0, 0) hGn
      have z9 : w'.cell? ⟨w0.heap.size, 9, none⟩ = some (.int .i64 0) := cell_of_row _ _ 9 _ 60 (0, 0) hGn
      have z10 : w'.cell? ⟨w0.heap.size, 10, none⟩ = some (.int .u8 0) := cell_of_row _ _ 10 _ 60 (0, 0) hGn
      have z11 : w'.cell? ⟨w0.heap.size, 11, none⟩ = some (.bool false) := cell_of_row _ _ 11 _ 60 (0, 0) hGn
      have z12 : w'.cell? ⟨w0.heap.size, 12, none⟩ = some (.int .i64 0) := cell_of_row _ _ 12 _ 60 (0, 0) hGn
      have zf := fun o => frozen_of_row w' w0.heap.size o _ 60 hGn
      have HGn := show Hid _ from hGn
      clear hGn hHeld2
      dsimp only
      refine hK.out _ _ (HK.out _ hb2) (fun hHeld3 => ?_)
      clear hK K
      refine wpAnyH_take (i := 20) (v := .agg #[.slice none 0 0, .pointer (some ⟨br, 0, none⟩), .int .i64 0, .slice so l c, .int .i64 0, .int .i64 P1.length, .int .u64 (IntKind.u64.wrap f), .int .u64 0, .int .i64 0, .int .i64 0, .int .u8 0, .bool true, .int .i64 n]) rfl (by kernel_rfl) (by kernel_rfl) (by kernel_rfl) (fun _ _ _ h => h) (Or.inl ⟨by rfl, fun wx hSw => by (try dsimp only at hSw); go_simp⟩) (by assumption) ?_
      simp only [Act.put, List.getElem_toArray, List.getElem_cons_zero, List.getElem_cons_succ, List.setIfInBounds_toArray, List.set_cons_zero, List.set_cons_succ]
      refine wpAnyH_ready (rs := [22]) (by kernel_rfl) (by simp) ?_
      refine AllReadyH.cons rfl (fun K hK => ?_) AllReadyH.nil
      go_simp
      refine hK.out _ _ (HK.out _ (chain13 hb2 _ (Nat.le_refl _) _ _ _ _ _ _ _ _ _ _ _ _ _)) (fun hHeld4 => ?_)
      clear hK K
      refine wpAnyH_done (by kernel_rfl) ?_ _
      go_wp2_with fail
      go_meet
      exact newc_rel hB0 HG0.out (chain13 hb2 _ (Nat.le_refl _) _ _ _ _ _ _ _ _ _ _ _ _ _) hBw (Nat.le_refl _) (chain13_row HGn.out _ _ _ _ _ _ _ _ _ _ _ _ _) hdat
  case rest =>
  obtain ⟨bc, rfl, hlt, hcs, hrow, hbel⟩ := hcut
  have c4 := (At.below HRw.out (Below.less hbel hBw)).2
  have ck := (HEw.out.sk.below (Below.less hbel hBw)).2
  clear hB0 HW hg0 hr0 HE hdat HN HK HG0 HS0
  go_wp2_with fail
  go_loopw [42] (fun i wr => ∃ k : Nat, k ≤ skip ∧ i = .int .i64 k ∧ Cs wr B bc (.pointer (some ⟨br, 0, none⟩)) 0 n (P1.drop k) ∧ wr.heap[w.heap.size]? = some (.cells zeroC 60 (0, 0)) ∧ Below w.heap.size w wr) (fun i _ => skip - (intOf i).toNat)
  case atStart => exact ⟨0, by omega, rfl, hcs, hrow, hbel⟩
  case round =>
    obtain ⟨k, hk, rfl, hcs1, hrow1, hbel1⟩ := hrel
    by_cases hks : k < skip
    · obtain ⟨p, hp⟩ : ∃ p, P1.drop k = p :: P1.drop (k + 1) := ⟨P1[k], List.drop_eq_getElem_cons (by omega)⟩
      rw [hp] at hcs1
      have hg1 := HGw.out.below (Below.less hbel1 hBw)
      have HX := show Hid _ from cs_next B bc _ 0 n p _ wr hcs1 g1 o1 g2 o2 hg1
      clear hcs1 hg1
      go_wp2_with (go_at_call 12; refine Calls.mono (Hid.out HX) ?_; rintro e w9 ⟨rfl, hcs9, hk9⟩)
      go_roundw
      case rel => exact ⟨k + 1, by omega, by go_num, hcs9, hk9.row (by omega) hrow1, hbel1.trans (Below.less (hk9.below (B := w.heap.size) (by omega) hbel1.size) (by omega))⟩
      case measure => simp [intOf]; omega
    · obtain rfl : k = skip := by omega
      obtain ⟨_, cs, hcells, vd, off, s, first, rfl, ⟨so1, l1, c1, rfl⟩, hdd⟩ := hcs1
      have hcur : Cur wr bc (.pointer (some ⟨br, 0, none⟩)) 0 (.slice so1 l1 c1) off (P1.drop k).length s.t s.step s.m s.dm first n := hcells
      have d0 : wr.cell? ⟨bc, 0, none⟩ = some (.slice none 0 0) := cell_of_row _ _ 0 _ 60 (0, 0) hcells
      have d1 := hcur.cRun
      have d2 := hcur.cK
      have d3 := hcur.cData
      have d4 := hcur.cOff
      have d5 := hcur.cLeft
      have d6 := hcur.cT
      have d7 := hcur.cStep
      have d8 := hcur.cM
      have d9 := hcur.cDm
      have d10 := hcur.cMode
      have d11 := hcur.cFirst
      have d12 := hcur.cCl
      have y0 : wr.cell? ⟨w.heap.size, 0, none⟩ = some (.slice none 0 0) := cell_of_row _ _ 0 _ 60 (0, 0) hrow1
      have y1 : wr.cell? ⟨w.heap.size, 1, none⟩ = some (.pointer none) := cell_of_row _ _ 1 _ 60 (0, 0) hrow1
      have y2 : wr.cell? ⟨w.heap.size, 2, none⟩ = some (.int .i64 0) := cell_of_row _ _ 2 _ 60 (0, 0) hrow1
      have y3 : wr.cell? ⟨w.heap.size, 3, none⟩ = some (.slice none 0 0) := cell_of_row _ _ 3 _ 60 (0, 0) hrow1
      have y4 : wr.cell? ⟨w.heap.size, 4, none⟩ = some (.int .i64 0) := cell_of_row _ _ 4 _ 60 (0, 0) hrow1
      have y5 : wr.cell? ⟨w.heap.size, 5, none⟩ = some (.int .i64 0) := cell_of_row _ _ 5 _ 60 (0, 0) hrow1
      have y6 : wr.cell? ⟨w.heap.size, 6, none⟩ = some (.int .u64 0) := cell_of_row _ _ 6 _ 60 (0, 0) hrow1
      have y7 : wr.cell? ⟨w.heap.size, 7, none⟩ = some (.int .u64 0) := cell_of_row _ _ 7 _ 60 (0, 0) hrow1
      have y8 : wr.cell? ⟨w.heap.size, 8, none⟩ = some (.int .i64 0) := cell_of_row _ _ 8 _ 60 (0, 0) hrow1
      have y9 : wr.cell? ⟨w.heap.size, 9, none⟩ = some (.int .i64 0) := cell_of_row _ _ 9 _ 60 (0, 0) hrow1
      have y10 : wr.cell? ⟨w.heap.size, 10, none⟩ = some (.int .u8 0) := cell_of_row _ _ 10 _ 60 (0, 0) hrow1
      have y11 : wr.cell? ⟨w.heap.size, 11, none⟩ = some (.bool false) := cell_of_row _ _ 11 _ 60 (0, 0) hrow1
      have y12 : wr.cell? ⟨w.heap.size, 12, none⟩ = some (.int .i64 0) := cell_of_row _ _ 12 _ 60 (0, 0) hrow1
      have yf := fun o => frozen_of_row wr w.heap.size o _ 60 hrow1
      obtain ⟨L, hL⟩ : ∃ L, (P1.drop k).length = L := ⟨_, rfl⟩
      rw [hL] at d5
      have HL := show Hid _ from hL
      clear hL hcs hrow hbel c4 ck hcells hcur hrow1
      go_wp2_with fail
      refine bodyPost_ret (v := .agg (curCells (.pointer (some ⟨br, 0, none⟩)) 0 (.slice so1 l1 c1) off L s first n)) (by simp [results, Ybad.results9, go_sem, y0, y1, y2, y3, y4, y5, y6, y7, y8, y9, y10, y11, y12, curCells]) rfl ⟨_, rfl, ⟨_, off, s, first, by rw [HL.out], Data.below (w := wr) ⟨⟨so1, l1, c1, rfl⟩, hdd⟩ (chain13 (Below.refl _ _) _ hBw _ _ _ _ _ _ _ _ _ _ _ _ _)⟩, chain13 hbel1 _ (Nat.le_refl _) _ _ _ _ _ _ _ _ _ _ _ _ _⟩
end Go.Proofs.YbulkxgcDoor.Dc
