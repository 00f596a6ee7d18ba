import Derived.Test.YbulkxgcDoorNewD
namespace Go.Proofs.YbulkxgcDoor.Dc
open Go.RowKit
open _root_.Go.Proofs.YbulkxgcDoor.Bt

/-- a cell of the world below B -/
def At (w : World) (B b o : Nat) (v : Value) : Prop := b < B ∧ w.cell? ⟨b, o, none⟩ = some v
theorem At.below {w w' : World} {B b o : Nat} {v : Value} (h : At w B b o v) (hb : Below B w w') : At w' B b o v := ⟨h.1, (hb.cell h.1).trans h.2⟩

/-- the listed variables, below B -/
structure GlB (w : World) (B g1 o1 g2 o2 : Nat) : Prop where
  tw : At w B 1 0 (.slice (some ⟨g1, o1, none⟩) 5 5)
  tw1 : At w B g1 (o1 + 1) (.int .i64 7)
  vw : At w B 2 0 (.slice (some ⟨g2, o2, none⟩) 9 9)
  vw2 : At w B g2 (o2 + 2) (.int .i64 8)
  pw : At w B 3 0 (.float .f64 4607182418800017408)
  le : B ≤ w.heap.size
theorem GlB.below {w w' : World} {B g1 o1 g2 o2 : Nat} (h : GlB w B g1 o1 g2 o2) (hb : Below B w w') : GlB w' B g1 o1 g2 o2 :=
  ⟨h.tw.below hb, h.tw1.below hb, h.vw.below hb, h.vw2.below hb, h.pw.below hb, Nat.le_trans h.le hb.size⟩
theorem At.out {w : World} {B b o bc : Nat} {v : Value} (h : At w B b o v) (hB : B ≤ w.heap.size) (hc : B ≤ bc) : Out bc w b o v :=
  ⟨Nat.lt_of_lt_of_le h.1 hB, by have := h.1; omega, h.2⟩
theorem GlB.gl {w : World} {B g1 o1 g2 o2 bc : Nat} (h : GlB w B g1 o1 g2 o2) (hc : B ≤ bc) : Gl bc w g1 o1 g2 o2 :=
  ⟨h.tw.out h.le hc, h.tw1.out h.le hc, h.vw.out h.le hc, h.vw2.out h.le hc, h.pw.out h.le hc⟩
theorem Kp.below {w w' : World} {B bc : Nat} (h : Kp bc w w') (hc : B ≤ bc) (hB : B ≤ w.heap.size) : Below B w w' :=
  ⟨h.os, h.tape, h.output, h.size, fun k hk => h.block k (by omega) (by omega)⟩
theorem Below.less {w w' : World} {B C : Nat} (h : Below B w w') (hc : C ≤ B) : Below C w w' :=
  ⟨h.os, h.tape, h.output, h.size, fun k hk => h.block k (by omega)⟩

/-- the bytes of a row below B -/
theorem ByteRow.below {w w' : World} {g nb cap B : Nat} {bs : List Bool} (h : ByteRow w g nb cap bs) (hg : g < B) (hb : Below B w w') : ByteRow w' g nb cap bs :=
  ⟨Nat.lt_of_lt_of_le h.lt hb.size, h.hnb, h.le, fun i hi => by rw [hb.cell (by exact hg)]; exact h.cell i hi⟩

/-- the cursor's cells -/
def curCells (vr : Value) (kk : Int) (vd : Value) (off left : Nat) (s : Sn) (first : Bool) (cl : Nat) : Array Value :=
  #[.slice none 0 0, vr, .int .i64 kk, vd, .int .i64 off, .int .i64 left, .int .u64 s.t, .int .u64 s.step, .int .i64 s.m, .int .i64 s.dm, .int .u8 0, .bool first, .int .i64 cl]

/-- what a decoder's data stand for -/
def Data (w : World) (B : Nat) (vd : Value) (off : Nat) (s : Sn) (first : Bool) (pts : List (Int × Int)) : Prop :=
  (∃ so l c, vd = .slice so l c) ∧ (pts = [] ∨ ∃ g nb cap bs, vd = .slice (some ⟨g, 0, none⟩) nb cap ∧ g < B ∧ ByteRow w g nb cap bs ∧ bs.length ≤ 100000 ∧ Plan bs off s first pts)
theorem Data.below {w w' : World} {B : Nat} {vd : Value} {off : Nat} {s : Sn} {first : Bool} {pts : List (Int × Int)} (h : Data w B vd off s first pts) (hb : Below B w w') : Data w' B vd off s first pts := by
  refine ⟨h.1, ?_⟩
  rcases h.2 with h | ⟨g, nb, cap, bs, h1, h2, h3, h4⟩
  · exact .inl h
  · exact .inr ⟨g, nb, cap, bs, h1, h2, h3.below h2 hb, h4⟩

/-- the cells of a cursor that has the points pts of its chunk to come -/
def CsV (w : World) (B : Nat) (cs : Array Value) (vr : Value) (kk : Int) (cl : Nat) (pts : List (Int × Int)) : Prop :=
  ∃ vd off s first, cs = curCells vr kk vd off pts.length s first cl ∧ Data w B vd off s first pts
theorem CsV.below {w w' : World} {B : Nat} {cs : Array Value} {vr : Value} {kk : Int} {cl : Nat} {pts : List (Int × Int)} (h : CsV w B cs vr kk cl pts) (hb : Below B w w') : CsV w' B cs vr kk cl pts := by
  obtain ⟨vd, off, s, first, h1, h2⟩ := h
  exact ⟨vd, off, s, first, h1, h2.below hb⟩

/-- a cursor in memory -/
def Cs (w : World) (B bc : Nat) (vr : Value) (kk : Int) (cl : Nat) (pts : List (Int × Int)) : Prop :=
  B ≤ bc ∧ ∃ cs, w.heap[bc]? = some (.cells cs 60 (0, 0)) ∧ CsV w B cs vr kk cl pts
theorem Cs.lt {w : World} {B bc : Nat} {vr : Value} {kk : Int} {cl : Nat} {pts : List (Int × Int)} (h : Cs w B bc vr kk cl pts) : bc < w.heap.size := by
  obtain ⟨_, cs, h1, _⟩ := h; exact lt_of_block h1
theorem Cs.same {w w' : World} {B bc : Nat} {vr : Value} {kk : Int} {cl : Nat} {pts : List (Int × Int)} (h : Cs w B bc vr kk cl pts) (hb : Below B w w') (he : w'.heap[bc]? = w.heap[bc]?) : Cs w' B bc vr kk cl pts := by
  obtain ⟨h0, cs, h1, h2⟩ := h
  exact ⟨h0, cs, he.trans h1, h2.below hb⟩

theorem cs_next (B bc : Nat) (vr : Value) (kk : Int) (cl : Nat) (p : Int × Int) (pts : List (Int × Int)) (w : World) (h : Cs w B bc vr kk cl (p :: pts)) (g1 o1 g2 o2 : Nat) (hg : GlB w B g1 o1 g2 o2) :
    Calls Ybad.prog 12 #[.pointer (some ⟨bc, 3, none⟩)] w fun e w' => e = .returned (pt p.1 p.2) ∧ Cs w' B bc vr kk cl pts ∧ Kp bc w w' := by
  obtain ⟨h0, cs, h1, vd, off, s, first, rfl, hsl, hd⟩ := h
  rcases hd with hd | ⟨g, nb, cap, bs, rfl, hgB, hrow, hlen, hpl⟩
  · cases hd
  refine Calls.mono (plan_next bc g nb cap bs vr kk off s first cl w p pts ⟨h1, hrow, by omega, hlen⟩ hpl g1 o1 g2 o2 (hg.gl h0)) ?_
  rintro e w' ⟨rfl, ⟨off', s', hds, hpl'⟩, hk⟩
  exact ⟨rfl, ⟨h0, _, hds.cur, _, off', s', false, rfl, ⟨_, _, _, rfl⟩, .inr ⟨g, nb, cap, bs, rfl, hgB, hds.row, hlen, hpl'⟩⟩, hk⟩

/-- the run, its two chunks: what they stand for -/
structure Env (w : World) (B br bch : Nat) (skip n : Nat) (P1 P2 : List (Int × Int)) : Prop where
  ch : At w B br 0 (.slice (some ⟨bch, 0, none⟩) 2 2)
  sk : At w B br 1 (.int .i64 skip)
  nn : At w B br 2 (.int .i64 n)
  c1 : ∃ so l c f, At w B bch 0 (.slice so l c) ∧ At w B bch 1 (.int .i32 P1.length) ∧ At w B bch 3 (.int .i64 f) ∧ P1.length ≤ 1025 ∧ Data w B (.slice so l c) 0 ⟨IntKind.u64.wrap f, 0, 0, 0⟩ true P1
  c2 : ∃ so l c f, At w B bch 6 (.slice so l c) ∧ At w B bch 7 (.int .i32 P2.length) ∧ At w B bch 9 (.int .i64 f) ∧ P2.length ≤ 1025 ∧ Data w B (.slice so l c) 0 ⟨IntKind.u64.wrap f, 0, 0, 0⟩ true P2
theorem Env.below {w w' : World} {B br bch skip n : Nat} {P1 P2 : List (Int × Int)} (h : Env w B br bch skip n P1 P2) (hb : Below B w w') : Env w' B br bch skip n P1 P2 := by
  obtain ⟨a1, a2, a3, ⟨so1, l1, c1, f1, x1, x2, x3, x4, x5⟩, ⟨so2, l2, c2, f2, y1, y2, y3, y4, y5⟩⟩ := h
  exact ⟨a1.below hb, a2.below hb, a3.below hb, ⟨so1, l1, c1, f1, x1.below hb, x2.below hb, x3.below hb, x4, x5.below hb⟩, ⟨so2, l2, c2, f2, y1.below hb, y2.below hb, y3.below hb, y4, y5.below hb⟩⟩
end Go.Proofs.YbulkxgcDoor.Dc
