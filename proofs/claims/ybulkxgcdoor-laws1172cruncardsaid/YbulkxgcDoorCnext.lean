import Derived.Test.YbulkxgcDoorCs
namespace Go.Proofs.YbulkxgcDoor.Dc
open Go.RowKit
open _root_.Go.Proofs.YbulkxgcDoor.Bt

theorem Cs.cur {w : World} {B bc : Nat} {vr : Value} {kk : Int} {cl : Nat} {pts : List (Int × Int)} (h : Cs w B bc vr kk cl pts) :
    ∃ so l c off, ∃ s : Sn, ∃ first, Cur w bc vr kk (.slice so l c) off pts.length s.t s.step s.m s.dm first cl ∧ B ≤ bc := by
  obtain ⟨h0, cs, h1, vd, off, s, first, rfl, ⟨so, l, c, rfl⟩, hd⟩ := h
  exact ⟨so, l, c, off, s, first, h1, h0⟩
theorem setCell_below (w : World) (B bc o : Nat) (v : Value) (h : B ≤ bc) : Below B w (w.setCell ⟨bc, o, none⟩ v) :=
  ⟨rfl, rfl, rfl, by simp [World.setCell], fun k hk => Below.heap_setCell _ _ _ _ (by show k ≠ bc; omega)⟩
theorem Cs.setCl {w : World} {B bc : Nat} {vr : Value} {kk : Int} {cl : Nat} {pts : List (Int × Int)} (h : Cs w B bc vr kk cl pts) {x : Int} {y : Nat} (e : x = (y : Int)) : Cs (w.setCell ⟨bc, 12, none⟩ (.int .i64 x)) B bc vr kk y pts := by
  subst e
  obtain ⟨h0, cs, h1, vd, off, s, first, rfl, hd⟩ := h
  exact ⟨h0, _, heap_setCell_same w bc 12 _ 60 (.int .i64 y) h1, vd, off, s, first, rfl, hd.below (setCell_below w B bc 12 _ h0)⟩

theorem Cs.other {w : World} {B bc : Nat} {vr : Value} {kk : Int} {cl : Nat} {pts : List (Int × Int)} (h : Cs w B bc vr kk cl pts) {C : Nat} (o : Nat) (v : Value) (h1 : C ≠ bc) (h2 : B ≤ C) : Cs (w.setCell ⟨C, o, none⟩ v) B bc vr kk cl pts :=
  h.same (setCell_below w B C o v h2) (Below.heap_setCell _ _ _ _ (Ne.symm h1))
theorem Cur.setData {w : World} {bc : Nat} {vr : Value} {kk : Int} {vd : Value} {off left : Nat} {t step m dm : Int} {first : Bool} {cl : Nat} (h : Cur w bc vr kk vd off left t step m dm first cl) (v : Value) : Cur (w.setCell ⟨bc, 3, none⟩ v) bc vr kk v off left t step m dm first cl := heap_setCell_same w bc 3 _ 60 v h
/-- a fresh decoder laid over the cursor's -/
def lay (w : World) (bc : Nat) (v : Value) (n : Int) (t : Int) : World :=
  ((((((((w.setCell ⟨bc, 3, none⟩ v).setCell ⟨bc, 4, none⟩ (.int .i64 0)).setCell ⟨bc, 5, none⟩ (.int .i64 n)).setCell ⟨bc, 6, none⟩ (.int .u64 t)).setCell ⟨bc, 7, none⟩ (.int .u64 0)).setCell ⟨bc, 8, none⟩ (.int .i64 0)).setCell ⟨bc, 9, none⟩ (.int .i64 0)).setCell ⟨bc, 10, none⟩ (.int .u8 0)).setCell ⟨bc, 11, none⟩ (.bool true)
theorem Cur.lay {w : World} {bc : Nat} {vr : Value} {kk : Int} {vd : Value} {off left : Nat} {t step m dm : Int} {first : Bool} {cl : Nat} (h : Cur w bc vr kk vd off left t step m dm first cl) (v : Value) (n : Nat) (t' : Int) : Cur (lay w bc v n t') bc vr kk v 0 n t' 0 0 0 true cl :=
  ((((((((h.setData v).setOff 0).setLeft n).setT t').setStep 0).setM 0).setDm 0).setMode).setFirst true
theorem Kp.lay {a w : World} {bc : Nat} (h : Kp bc a w) (v : Value) (n : Int) (t : Int) : Kp bc a (lay w bc v n t) :=
  ((((((((h.set 3 _).set 4 _).set 5 _).set 6 _).set 7 _).set 8 _).set 9 _).set 10 _).set 11 _

set_option maxHeartbeats 1000000 in
set_option maxRecDepth 100000 in
theorem cnext_end (B bc br : Nat) (kk : Int) (pts : List (Int × Int)) (w : World) (h : Cs w B bc (.pointer (some ⟨br, 0, none⟩)) kk 0 pts) :
    Calls Ybad.prog 10 #[.pointer (some ⟨bc, 0, none⟩)] w fun e w' => e = .returned (.tuple #[.agg #[.int .i64 0, .float .f64 0], .bool false]) ∧ Below w.heap.size w w' := by
  obtain ⟨so, l, c, off, s, first, hc, hB⟩ := h.cur
  have hB0 : Below w.heap.size w (w.alloc (.cells #[.int .i64 0, .float .f64 0] 42)) := (Below.refl _ _).alloc (Nat.le_refl _) _
  have hG0 : (w.alloc (.cells #[.int .i64 0, .float .f64 0] 42)).heap[w.heap.size]? = some (.cells #[.int .i64 0, .float .f64 0] 42 (0, 0)) := heap_alloc_new w _
  have hc0 := hc.below hB0
  have c1 := hc0.cRun
  have c12 := hc0.cCl
  have b0 : (w.alloc (.cells #[.int .i64 0, .float .f64 0] 42)).cell? ⟨w.heap.size, 0, none⟩ = some (.int .i64 0) := cell_of_row _ w.heap.size 0 _ 42 (0, 0) hG0
  have b1 : (w.alloc (.cells #[.int .i64 0, .float .f64 0] 42)).cell? ⟨w.heap.size, 1, none⟩ = some (.float .f64 0) := cell_of_row _ w.heap.size 1 _ 42 (0, 0) hG0
  have hsf := st_float
  clear hc h hG0
  go_enter Ybad.func10, Ybad.ntmps10
  go_wp2_with fail
  refine bodyPost_ret (v := .tuple #[.agg #[.int .i64 0, .float .f64 0], .bool false]) (by simp [results, Ybad.results10, go_sem, b0, b1]) rfl ⟨rfl, hB0⟩

set_option maxHeartbeats 1000000 in
set_option maxRecDepth 100000 in
theorem cnext_same (B bc br : Nat) (kk : Int) (n : Nat) (hn : n ≤ 100000) (p : Int × Int) (pts : List (Int × Int)) (w : World) (h : Cs w B bc (.pointer (some ⟨br, 0, none⟩)) kk (n + 1) (p :: pts)) (g1 o1 g2 o2 : Nat) (hg : GlB w B g1 o1 g2 o2) :
    Calls Ybad.prog 10 #[.pointer (some ⟨bc, 0, none⟩)] w fun e w' => e = .returned (.tuple #[pt p.1 p.2, .bool true]) ∧ Cs w' B bc (.pointer (some ⟨br, 0, none⟩)) kk n pts ∧ Kp bc w w' := by
  have hlt := h.lt
  have hB0 : Below w.heap.size w (w.alloc (.cells #[.int .i64 0, .float .f64 0] 42)) := (Below.refl _ _).alloc (Nat.le_refl _) _
  have hG0 : (w.alloc (.cells #[.int .i64 0, .float .f64 0] 42)).heap[w.heap.size]? = some (.cells #[.int .i64 0, .float .f64 0] 42 (0, 0)) := heap_alloc_new w _
  have h0 := h.same (Below.less hB0 hg.le) (hB0.block bc hlt)
  have hg0 := hg.below (Below.less hB0 hg.le)
  have hK0 := Kp.of_below (bc := bc) hB0
  have hne : w.heap.size ≠ bc := by omega
  have hBw := hg.le
  clear h hg hB0
  obtain ⟨so, l, c, off, s, first, hc, hB⟩ := h0.cur
  have c1 := hc.cRun
  have c12 := hc.cCl
  have f12 := hc.free 12
  have c5 := hc.cLeft
  rw [List.length_cons] at c5
  have hsf := st_float
  clear hc
  obtain ⟨N, hN⟩ : ∃ N, N = pts.length := ⟨_, rfl⟩
  rw [← hN] at c5
  clear hN hlt
  go_enter Ybad.func10, Ybad.ntmps10
  go_wp2_with fail
  have h1 := h0.setCl (x := (n : Int)) (y := n) rfl
  have hK1 := (Kp.refl bc (w.alloc (.cells #[.int .i64 0, .float .f64 0] 42))).set 12 (.int .i64 (n : Int))
  have hg1 := hg0.below (hK1.below hB (by simp; omega))
  refine Calls.mono (cs_next B bc _ kk n p pts _ h1 g1 o1 g2 o2 hg1) ?_
  rintro e w2 ⟨rfl, h2, hK2⟩
  have hG2 := hK2.row hne (hK1.row hne hG0)
  have hK3 := (hK0.trans hK1).trans hK2
  clear h0 h1 c1 c12 f12 c5 hg0 hg1 hK0 hK1 hK2 hG0
  have b0 : w2.cell? ⟨w.heap.size, 0, none⟩ = some (.int .i64 0) := cell_of_row _ w.heap.size 0 _ 42 (0, 0) hG2
  have b1 : w2.cell? ⟨w.heap.size, 1, none⟩ = some (.float .f64 0) := cell_of_row _ w.heap.size 1 _ 42 (0, 0) hG2
  have bf := fun o => frozen_of_row w2 w.heap.size o _ 42 hG2
  simp only [pt]
  go_wp2_with fail
  refine bodyPost_ret (v := .tuple #[pt p.1 p.2, .bool true]) (by simp [results, Ybad.results10, go_sem, b0, b1, pt]) rfl ⟨rfl, (h2.other 0 _ hne hBw).other 1 _ hne hBw, (hK3.new (Nat.le_refl _) _ _).new (Nat.le_refl _) _ _⟩

theorem two_rel {w w1 w' : World} {B bc : Nat} {vr : Value} {kk : Int} {v0 : Value} {off left : Nat} {t step m dm : Int} {first : Bool} {cl g1 o1 g2 o2 : Nat} {so2 : Option Addr} {l2 k2 : Nat} {f : Int} {pts : List (Int × Int)}
    (hc : Cur w1 bc vr kk v0 off left t step m dm first cl) (hb : Below w1.heap.size w1 w') (hB : B ≤ bc) (hg : GlB w1 B g1 o1 g2 o2) (hK : Kp bc w w1) (hne : w.heap.size ≠ bc)
    (hG : w1.heap[w.heap.size]? = some (.cells #[.int .i64 0, .float .f64 0] 42 (0, 0))) (hd : Data w1 B (.slice so2 l2 k2) 0 ⟨IntKind.u64.wrap f, 0, 0, 0⟩ true pts) (x : Int) (hx : x = (pts.length : Int)) :
    Cs (lay w' bc (.slice so2 l2 k2) x (IntKind.u64.wrap f)) B bc vr kk cl pts ∧ Kp bc w (lay w' bc (.slice so2 l2 k2) x (IntKind.u64.wrap f)) ∧ GlB (lay w' bc (.slice so2 l2 k2) x (IntKind.u64.wrap f)) B g1 o1 g2 o2 ∧
      (lay w' bc (.slice so2 l2 k2) x (IntKind.u64.wrap f)).heap[w.heap.size]? = some (.cells #[.int .i64 0, .float .f64 0] 42 (0, 0)) := by
  subst hx
  have hk : Kp bc w1 (lay w' bc (.slice so2 l2 k2) (pts.length : Int) (IntKind.u64.wrap f)) := (Kp.of_below hb).lay _ _ _
  have hbl := hk.below hB hg.le
  refine ⟨⟨hB, _, (hc.below hb).lay (.slice so2 l2 k2) pts.length (IntKind.u64.wrap f), _, 0, ⟨IntKind.u64.wrap f, 0, 0, 0⟩, true, rfl, hd.below hbl⟩, hK.trans hk, hg.below hbl, hk.row hne hG⟩

set_option maxHeartbeats 1000000 in
set_option maxRecDepth 100000 in
theorem cnext_two (B bc br bch skip nn : Nat) (n : Nat) (hn : n ≤ 100000) (P1 : List (Int × Int)) (p : Int × Int) (pts : List (Int × Int)) (w : World) (h : Cs w B bc (.pointer (some ⟨br, 0, none⟩)) 0 (n + 1) []) (he : Env w B br bch skip nn P1 (p :: pts)) (g1 o1 g2 o2 : Nat) (hg : GlB w B g1 o1 g2 o2) :
    Calls Ybad.prog 10 #[.pointer (some ⟨bc, 0, none⟩)] w fun e w' => e = .returned (.tuple #[pt p.1 p.2, .bool true]) ∧ Cs w' B bc (.pointer (some ⟨br, 0, none⟩)) 1 n pts ∧ Kp bc w w' := by
  have hlt := h.lt
  have hB0 : Below w.heap.size w (w.alloc (.cells #[.int .i64 0, .float .f64 0] 42)) := (Below.refl _ _).alloc (Nat.le_refl _) _
  have hG0 : (w.alloc (.cells #[.int .i64 0, .float .f64 0] 42)).heap[w.heap.size]? = some (.cells #[.int .i64 0, .float .f64 0] 42 (0, 0)) := heap_alloc_new w _
  have h0 := h.same (Below.less hB0 hg.le) (hB0.block bc hlt)
  have hg0 := hg.below (Below.less hB0 hg.le)
  have he0 := he.below (Below.less hB0 hg.le)
  have hK0 := Kp.of_below (bc := bc) hB0
  have hne : w.heap.size ≠ bc := by omega
  have hBw := hg.le
  clear h hg hB0 he
  obtain ⟨so, l, c, off, s, first, hc, hB⟩ := h0.cur
  have c1 := hc.cRun
  have c2 := hc.cK
  have f2 := hc.free 2
  have c12 := hc.cCl
  have f12 := hc.free 12
  have c5 := hc.cLeft
  rw [List.length_nil] at c5
  have hsf := st_float
  have hc1 := hc.setK 1
  clear hlt
  have hK1 := (Kp.refl bc (w.alloc (.cells #[.int .i64 0, .float .f64 0] 42))).set 2 (.int .i64 1)
  have he1 := he0.below (hK1.below hB (by simp; omega))
  have hg1 := hg0.below (hK1.below hB (by simp; omega))
  have hG1 := hK1.row hne hG0
  have hK2 := hK0.trans hK1
  have hsz : B ≤ ((w.alloc (.cells #[.int .i64 0, .float .f64 0] 42)).setCell ⟨bc, 2, none⟩ (.int .i64 1)).heap.size := hg1.le
  clear h0 hc he0 hg0 hG0 hK0 hK1
  go_enter Ybad.func10, Ybad.ntmps10
  go_upto_region 11 with fail
  generalize (w.alloc (.cells #[.int .i64 0, .float .f64 0] 42)).setCell ⟨bc, 2, none⟩ (.int .i64 1) = w1 at *
  clear c1 c2 f2 c12 f12 c5
  have c1 := hc1.cRun
  have c2 := hc1.cK
  have cb := he1.ch.2
  obtain ⟨so2, l2, k2, f, x1, x2, x3, hl2, hdat⟩ := he1.c2
  have HN := show Hid _ from newDecoder_any bch 6 so2 l2 k2 (p :: pts).length f w1.drew x1.2 x2.2 x3.2 (by omega)
  clear x1 x2 x3 hl2 he1
  go_cut [] from 51 to 66 (fun wx => Cs wx B bc (.pointer (some ⟨br, 0, none⟩)) 1 (n + 1) (p :: pts) ∧ Kp bc w wx ∧ GlB wx B g1 o1 g2 o2 ∧ wx.heap[w.heap.size]? = some (.cells #[.int .i64 0, .float .f64 0] 42 (0, 0)))
  case first =>
    go_region_with (go_at_call 11; refine Calls.mono (Hid.out HN) ?_; rintro e w' ⟨rfl, hb'⟩; have hb2 := Below.trans (Below.refl _ w1).drew hb'; have hc2 := hc1.below hb2; have d3 := hc2.cData; have d4 := hc2.cOff; have d5 := hc2.cLeft; have d6 := hc2.cT; have d7 := hc2.cStep; have d8 := hc2.cM; have d9 := hc2.cDm; have d10 := hc2.cMode; have d11 := hc2.cFirst; have df := hc2.free)
    all_goals (go_wp2_with fail; go_meet)
    all_goals exact two_rel hc1 hb2 hB hg1 hK2 hne hG1 hdat _ rfl
  case rest =>
  obtain ⟨h3, hK3, hg3, hG3⟩ := hcut
  clear hc1 hg1 hG1 hK2 hsz c1 c2 cb hdat HN
  obtain ⟨so3, l3, k3, off3, s3, first3, hc3, _⟩ := h3.cur
  have c12 := hc3.cCl
  have f12 := hc3.free 12
  clear hc3
  go_wp2_with fail
  have h4 := h3.setCl (x := (n : Int)) (y := n) rfl
  have hK4 := (Kp.refl bc wc).set 12 (.int .i64 (n : Int))
  have hg4 := hg3.below (hK4.below hB hg3.le)
  refine Calls.mono (cs_next B bc _ 1 n p pts _ h4 g1 o1 g2 o2 hg4) ?_
  rintro e w2 ⟨rfl, h5, hK5⟩
  have hG5 := hK5.row hne (hK4.row hne hG3)
  have hK6 := (hK3.trans hK4).trans hK5
  clear h3 h4 c12 f12 hg3 hg4 hK3 hK4 hK5 hG3
  have b0 : w2.cell? ⟨w.heap.size, 0, none⟩ = some (.int .i64 0) := cell_of_row _ w.heap.size 0 _ 42 (0, 0) hG5
  have b1 : w2.cell? ⟨w.heap.size, 1, none⟩ = some (.float .f64 0) := cell_of_row _ w.heap.size 1 _ 42 (0, 0) hG5
  have bf := fun o => frozen_of_row w2 w.heap.size o _ 42 hG5
  simp only [pt]
  go_wp2_with fail
  refine bodyPost_ret (v := .tuple #[pt p.1 p.2, .bool true]) (by simp [results, Ybad.results10, go_sem, b0, b1, pt]) rfl ⟨rfl, (h5.other 0 _ hne hBw).other 1 _ hne hBw, (hK6.new (Nat.le_refl _) _ _).new (Nat.le_refl _) _ _⟩
end Go.Proofs.YbulkxgcDoor.Dc
