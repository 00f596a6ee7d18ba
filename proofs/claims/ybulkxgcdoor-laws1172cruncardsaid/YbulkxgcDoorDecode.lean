import Derived.Test.YbulkxgcDoorStep
namespace Go.Proofs.YbulkxgcDoor.Dc
open Go.RowKit
open _root_.Go.Proofs.YbulkxgcDoor.Bt

/-- the points' cells -/
def ptCells (l : List (Int × Int)) : List Value := l.flatMap fun p => [.int .i64 p.1, .float .f64 (Flt.F p.2)]

theorem ptCells_snoc (l : List (Int × Int)) (k : Nat) (p : Int × Int) (r : List (Int × Int)) (h : l.drop k = p :: r) : ptCells (l.take (k + 1)) = ptCells (l.take k) ++ [.int .i64 p.1, .float .f64 (Flt.F p.2)] := by
  have hk : k < l.length := by
    rcases Nat.lt_or_ge k l.length with h' | h'
    · exact h'
    · rw [List.drop_eq_nil_of_le h'] at h; cases h
  have hp : l[k]? = some p := by
    have := congrArg (·[0]?) h
    simpa [List.getElem?_drop] using this
  rw [List.take_add_one, hp]
  simp [ptCells]

theorem own_same {w w' : World} {base : Nat} {e : TypeId} {size R k cap : Nat} {xs : List Value} (h : w.ownsRow base e size (.slice (some ⟨R, 0, none⟩) k cap) k xs) (he : w'.heap[R]? = w.heap[R]?) : w'.ownsRow base e size (.slice (some ⟨R, 0, none⟩) k cap) k xs := by
  obtain ⟨h1, h2⟩ := h
  refine ⟨h1, ?_⟩
  rcases h2 with ⟨h2, _⟩ | ⟨g, c, cur, h2, h3, h4, h5⟩
  · cases h2
  · cases h2
    exact .inr ⟨_, _, cur, rfl, h3, he.trans h4, h5⟩

theorem chain2 {B : Nat} {a w : World} (h : Below B a w) (b : Nat) (hb : B ≤ b) (u v : Value) : Below B a ((w.setCell ⟨b, 0, none⟩ u).setCell ⟨b, 1, none⟩ v) := (h.setCell hb u).setCell hb v
theorem chain2_far {w : World} {b k : Nat} (hk : k ≠ b) (u v : Value) : ((w.setCell ⟨b, 0, none⟩ u).setCell ⟨b, 1, none⟩ v).heap[k]? = w.heap[k]? := by
  rw [Below.heap_setCell _ _ _ _ hk, Below.heap_setCell _ _ _ _ hk]
theorem chain2_row {w : World} {b : Nat} {x y : Value} (h : w.heap[b]? = some (.cells #[x, y] 42 (0, 0))) (u v : Value) : ((w.setCell ⟨b, 0, none⟩ u).setCell ⟨b, 1, none⟩ v).heap[b]? = some (.cells #[u, v] 42 (0, 0)) := by
  have h0 : (w.setCell ⟨b, 0, none⟩ u).heap[b]? = some (.cells #[u, y] 42 (0, 0)) := heap_setCell_same _ b 0 _ 42 u h
  exact heap_setCell_same _ b 1 _ 42 v h0

/-- the loop's state: k points are appended, the next one lies in block bp -/
structure Dl (w wr : World) (bc br n : Nat) (P2 all : List (Int × Int)) (k : Nat) (a : Int) (b : Nat) (ok : Bool) (bp : Nat) : Prop where
  own : wr.ownsRow w.heap.size 42 2 (.slice (some ⟨w.heap.size, 0, none⟩) k n) k (ptCells (all.take k))
  nx : Nx wr w.heap.size bc br P2 (all.drop k) a b ok
  bel : Below w.heap.size w wr
  var : wr.heap[bp]? = some (.cells #[.int .i64 a, .float .f64 b] 42 (0, 0))
  h1 : bc < bp
  h2 : w.heap.size < bc

theorem point_info : ∃ i, Ybad.prog.info? 42 = some i ∧ i.zero = some (.agg #[.int .i64 0, .float .f64 0]) ∧ i.size = 2 ∧ i.bytes = 16 := ⟨_, rfl, rfl, rfl, rfl⟩

set_option maxHeartbeats 2000000 in
set_option maxRecDepth 100000 in
theorem decode_any (bser br bch skip n : Nat) (P1 P2 : List (Int × Int)) (w : World) (hsk : skip ≤ P1.length) (he : Env w w.heap.size br bch skip n P1 P2) (hr : At w w.heap.size bser 4 (.pointer (some ⟨br, 0, none⟩)))
    (hn : n = (P1.drop skip ++ P2).length) (hn2 : n ≤ 4000)  (h3 : w.cell? ⟨bser, 3, none⟩ = some (.slice none 0 0)) (f3 : w.frozen? ⟨bser, 3, none⟩ = false) (f4 : w.frozen? ⟨bser, 4, none⟩ = false)
    (g1 o1 g2 o2 : Nat) (hg : GlB w w.heap.size g1 o1 g2 o2) :
    Calls Ybad.prog 6 #[.pointer (some ⟨bser, 0, none⟩)] w fun e w' => e = .returned (.tuple #[]) ∧ ∃ R, w.heap.size ≤ R ∧ w'.cell? ⟨bser, 3, none⟩ = some (.slice (some ⟨R, 0, none⟩) n n) ∧ w'.cell? ⟨bser, 4, none⟩ = some (.pointer none) ∧
      (∀ j u, (ptCells (P1.drop skip ++ P2))[j]? = some u → w'.cell? ⟨R, j, none⟩ = some u) ∧ Kp bser w w' := by
  obtain ⟨i0, hi, hz0, hz1, hz2⟩ := point_info
  have c4 := hr.2
  have cn := he.nn.2
  have HE := show Hid _ from he
  have HR := show Hid _ from hr
  have HG := show Hid _ from hg
  have HNN := show Hid _ from hn
  clear he hr hg hn
  go_enter Ybad.func6, Ybad.ntmps6
  go_wp2_with (at_make; refine wpList_make_own _ rfl _ _ 26 rfl w.heap.size 42 i0 _ 2 Ybad.underlying26 hi hz0 hz1 _ _ _ n rfl rfl rfl (by rw [hz2]; omega) (by simp [maxLen]; omega) (Nat.le_refl _) ?_; intro w1 hown1 hgr1)
  have hb1 : Below w.heap.size w w1 := (Below.refl _ _).grown hgr1 (Nat.le_refl _) (by simp)
  have hR1 : w.heap.size < w1.heap.size := (hown1.lt w.heap.size rfl).2
  refine Calls.mono (newCursor_any w.heap.size bser br bch skip n P1 P2 w1 hsk (HE.out.below hb1) (At.below HR.out hb1) g1 o1 g2 o2 (HG.out.below hb1)) ?_
  rintro e w2 ⟨cs, rfl, ⟨vd, off, s, first, rfl, ⟨so, l, c, rfl⟩, hdd⟩, hb2⟩
  have hown2 := own_same hown1 (hb2.block _ hR1)
  have hbe2 : Below w.heap.size w w2 := hb1.trans (Below.less hb2 (by omega))
  have hR2 : w.heap.size < w2.heap.size := Nat.lt_of_lt_of_le hR1 hb2.size
  clear hown1 hgr1 hb2 hR1 hb1
  obtain ⟨L, hL⟩ : ∃ L, (P1.drop skip).length = L := ⟨_, rfl⟩
  have HL := show Hid _ from hL
  simp only [curCells, hL]
  clear hL
  go_wp2_with fail
  have hb3 : Below w2.heap.size w2 (w2.alloc (.cells (curCells (.pointer (some ⟨br, 0, none⟩)) 0 (.slice so l c) off L s first n) 60)) := (Below.refl _ _).alloc (Nat.le_refl _) _
  have hbe3 := hbe2.trans (Below.less hb3 (Nat.le_of_lt hR2))
  have hown3 := own_same hown2 (hb3.block _ hR2)
  have hcs3 : CurSt (w2.alloc (.cells (curCells (.pointer (some ⟨br, 0, none⟩)) 0 (.slice so l c) off L s first n) 60)) w.heap.size w2.heap.size br P2 (P1.drop skip ++ P2) :=
    .inl ⟨P1.drop skip, rfl, Nat.le_of_lt hR2, _, heap_alloc_new w2 _, .slice so l c, off, s, first, by rw [HL.out, ← HNN.out], Data.below (w := w2) ⟨⟨so, l, c, rfl⟩, hdd⟩ (Below.less hb3 (Nat.le_of_lt hR2))⟩
  have hsz3 : w2.heap.size < (w2.alloc (.cells (curCells (.pointer (some ⟨br, 0, none⟩)) 0 (.slice so l c) off L s first n) 60)).heap.size := by simp
  refine Calls.mono (cnext_any w.heap.size w2.heap.size br bch skip n P1 P2 (P1.drop skip ++ P2) _ (by rw [← HNN.out]; omega) hcs3 (HE.out.below hbe3) g1 o1 g2 o2 (HG.out.below hbe3)) ?_
  rintro e w4 ⟨a, b, ok, rfl, hnx, hk⟩
  have hown4 := own_same hown3 (hk.block _ (Nat.lt_of_lt_of_le hR2 hb3.size) (by omega))
  have hbe4 := hbe3.trans (hk.below (B := w.heap.size) (Nat.le_of_lt hR2) hbe3.size)
  have hbc4 : w2.heap.size < w4.heap.size := Nat.lt_of_lt_of_le hsz3 hk.size
  obtain ⟨bc, hbc⟩ : ∃ bc, w2.heap.size = bc := ⟨_, rfl⟩
  rw [hbc] at hnx hbc4 hR2 ⊢
  clear hown2 hown3 hcs3 hsz3 hk hb3 hbe2 hbe3 hdd hbc
  have hsf := st_float
  go_wp2_with fail
  have hb5 : Below w4.heap.size w4 (w4.alloc (.cells #[.int .i64 a, .float .f64 b] 42)) := (Below.refl _ _).alloc (Nat.le_refl _) _
  have hdl : Dl w (w4.alloc (.cells #[.int .i64 a, .float .f64 b] 42)) bc br n P2 (P1.drop skip ++ P2) 0 a b ok w4.heap.size :=
    ⟨own_same hown4 (hb5.block _ (by omega)), hnx.same (Below.less hb5 (by omega)) (hb5.block _ hbc4), hbe4.trans (Below.less hb5 (by omega)), heap_alloc_new w4 _, hbc4, hR2⟩
  clear hown4 hnx hbe4 hb5
  obtain ⟨all, hal⟩ : ∃ all, P1.drop skip ++ P2 = all := ⟨_, rfl⟩
  rw [hal] at HNN hdl
  have HAL := show Hid _ from hal
  clear hal
  go_loopg [2, 4, 5] n (fun g v2 v4 v5 wr => ∃ k a b ok bp, k ≤ n ∧ g = n - k ∧ v2 = .slice (some ⟨w.heap.size, 0, none⟩) k n ∧ v4 = .pointer (some ⟨bp, 0, none⟩) ∧ v5 = .bool ok ∧ Dl w wr bc br n P2 all k a b ok bp)
  case atStart => exact ⟨0, a, b, ok, _, by omega, by omega, rfl, rfl, rfl, hdl⟩
  case round =>
    clear hdl
    obtain ⟨k, a1, b1, ok1, bp, hk, rfl, rfl, rfl, rfl, hd⟩ := hrel
    cases ok1 with
    | false =>
      have hall : all.drop k = [] := by
        rcases hd.nx with ⟨_, h⟩ | ⟨h, _⟩
        · exact h
        · cases h
      have hkn : k = n := by
        have := List.drop_eq_nil_iff.1 hall
        have := HNN.out
        omega
      subst hkn
      have hlt : bser < w.heap.size := HR.out.1
      have k3 := (hd.bel.cell (p := ⟨bser, 3, none⟩) hlt).trans h3
      have k4 := (hd.bel.cell (p := ⟨bser, 4, none⟩) hlt).trans c4
      have e3 := (hd.bel.frozen (p := ⟨bser, 3, none⟩) hlt).trans f3
      have e4 := (hd.bel.frozen (p := ⟨bser, 4, none⟩) hlt).trans f4
      have HLT := show Hid _ from hlt
      clear h3 f3 f4 c4 cn hlt
      go_wp2_with fail
      go_end0
      refine ⟨rfl, w.heap.size, Nat.le_refl _, by go_simp, by go_simp, ?_, ((Kp.of_below (bc := bser) hd.bel).set 3 _).set 4 _⟩
      intro j u hu
      have hne : w.heap.size ≠ bser := by have := HLT.out; omega
      have htk : all.take k = all := List.take_of_length_le (by rw [← HNN.out]; omega)
      have hu2 : (ptCells (all.take k))[j]? = some u := by rw [htk, ← HAL.out]; exact hu
      have hc := (hd.own.cellAt j (by rw [← hd.own.1]; exact (List.getElem?_eq_some_iff.1 hu2).1)).trans hu2
      rw [World.cell?_of_block (w := wr) (a := ⟨w.heap.size, j, none⟩) ((Below.heap_setCell _ ⟨bser, 4, none⟩ _ w.heap.size hne).trans (Below.heap_setCell _ ⟨bser, 3, none⟩ _ w.heap.size hne))]
      exact hc
    | true =>
      obtain ⟨p, r, hdr, rfl, rfl, hcs⟩ : ∃ p r, all.drop k = p :: r ∧ a1 = p.1 ∧ b1 = Flt.F p.2 ∧ CurSt wr w.heap.size bc br P2 r := by
        rcases hd.nx with ⟨h, _⟩ | ⟨_, h⟩
        · cases h
        · exact h
      have hkn : k < n := by
        have h1 := congrArg List.length hdr
        rw [List.length_drop, List.length_cons] at h1
        have := HNN.out
        omega
      have HSN := show Hid _ from ptCells_snoc all k p r hdr
      have hdr2 : Hid (all.drop (k + 1) = r) := by
        have := congrArg List.tail hdr
        rw [List.tail_drop] at this
        exact this
      have HDR := show Hid _ from hdr
      clear hdr h3 f3 f4 c4 cn
      have p0 : wr.cell? ⟨bp, 0, none⟩ = some (.int .i64 p.1) := cell_of_row _ _ 0 _ 42 (0, 0) hd.var
      have p1 : wr.cell? ⟨bp, 1, none⟩ = some (.float .f64 (Flt.F p.2)) := cell_of_row _ _ 1 _ 42 (0, 0) hd.var
      have hbp : bp < wr.heap.size := lt_of_block hd.var
      have hbb : w.heap.size < bp := Nat.lt_trans hd.h2 hd.h1
      go_wp2_with (at_builtin; refine wpList_append_fits _ rfl (.tmp 30) (.tmp 32) 26 rfl w.heap.size 42 i0 2 Ybad.underlying26 hi hz1 w.heap.size k n (ptCells (all.take k)) rfl (hd.own.alloc _) ⟨wr.heap.size, 0, none⟩ 1 1 [.int .i64 p.1, .float .f64 (Flt.F p.2)] rfl rfl ?c1 ?c2 (by omega) ?_)
      case c1 => intro j u hu; match j, hu with | 0, hu => (simp at hu; subst hu; simp [Addr.add]) | 1, hu => (simp at hu; subst hu; simp [Addr.add])
      case c2 => intro u hu; simp at hu; rcases hu with rfl | rfl <;> rfl
      intro w5 hown5 hgr5
      rw [← HSN.out] at hown5
      have hb5 : ∀ j, j < wr.heap.size → j ≠ w.heap.size → w5.heap[j]? = wr.heap[j]? := fun j hj hn => (hgr5.block j (by simp; omega) (by simpa using hn)).trans (Below.heap_alloc _ _ _ hj)
      have hsz5 : wr.heap.size ≤ w5.heap.size := Nat.le_trans (by simp) hgr5.size
      have hbel5 : Below w.heap.size wr w5 := ⟨hgr5.os, hgr5.tape, hgr5.output, hsz5, fun j hj => hb5 j (by omega) (by omega)⟩
      have hvar5 : w5.heap[bp]? = _ := (hb5 bp hbp (by omega)).trans hd.var
      have hcs5 := hcs.same hbel5 (hb5 bc (by have := hd.h1; omega) (by have := hd.h2; omega))
      have hbw5 := hd.bel.trans hbel5
      have hbc5 := hcs5.lt
      have hB2 := hd.h2
      clear p0 p1 hgr5 hb5 hbel5 hcs hd hbp
      have p0 : w5.cell? ⟨bp, 0, none⟩ = some (.int .i64 p.1) := cell_of_row _ _ 0 _ 42 (0, 0) hvar5
      have p1 : w5.cell? ⟨bp, 1, none⟩ = some (.float .f64 (Flt.F p.2)) := cell_of_row _ _ 1 _ 42 (0, 0) hvar5
      go_wp2_with fail
      have hb6 : Below w5.heap.size w5 (w5.alloc (.cells #[.int .i64 p.1, .float .f64 (Flt.F p.2)] 42)) := (Below.refl _ _).alloc (Nat.le_refl _) _
      have hG6 : (w5.alloc (.cells #[.int .i64 p.1, .float .f64 (Flt.F p.2)] 42)).heap[w5.heap.size]? = some (.cells #[.int .i64 p.1, .float .f64 (Flt.F p.2)] 42 (0, 0)) := heap_alloc_new w5 _
      have hcs6 := hcs5.same (Below.less hb6 (by omega)) (hb6.block bc hbc5)
      have hbw6 := hbw5.trans (Below.less hb6 (by omega))
      have hown6 := own_same hown5 (hb6.block _ (by omega))
      have hrl : r.length ≤ 100000 := by
        have h1 := congrArg List.length HDR.out
        rw [List.length_drop, List.length_cons] at h1
        have := HNN.out
        omega
      refine Calls.mono (cnext_any w.heap.size bc br bch skip n P1 P2 r _ hrl hcs6 (HE.out.below hbw6) g1 o1 g2 o2 (HG.out.below hbw6)) ?_
      rintro e w7 ⟨a7, b7, ok7, rfl, hnx7, hk7⟩
      have hG7 := hk7.row (by omega) hG6
      have hown7 := own_same hown6 (hk7.block _ (by simp; omega) (by omega))
      have hbw7 := hbw6.trans (hk7.below (B := w.heap.size) (by omega) (by simp; omega))
      have hsz7 : w5.heap.size < w7.heap.size := Nat.lt_of_lt_of_le (by simp) hk7.size
      obtain ⟨bq, hbq⟩ : ∃ bq, w5.heap.size = bq := ⟨_, rfl⟩
      rw [hbq] at hG7 hbc5 hsz7 ⊢
      have q0 : w7.cell? ⟨bq, 0, none⟩ = some (.int .i64 p.1) := cell_of_row _ _ 0 _ 42 (0, 0) hG7
      have q1 : w7.cell? ⟨bq, 1, none⟩ = some (.float .f64 (Flt.F p.2)) := cell_of_row _ _ 1 _ 42 (0, 0) hG7
      have qf := fun o => frozen_of_row w7 bq o _ 42 hG7
      clear hb6 hG6 hcs6 hcs5 hbw6 hbw5 hown6 hown5 hk7 p0 p1 hvar5 hbq
      go_wp2_with fail
      go_roundg (n - (k + 1))
      case measure => omega
      case rel =>
        have hbl := chain2 (Below.refl w.heap.size w7) bq (by omega) (.int .i64 a7) (.float .f64 b7)
        refine ⟨k + 1, a7, b7, ok7, bq, by omega, rfl, rfl, rfl, rfl, own_same hown7 ?_, ?_, hbw7.trans hbl, chain2_row hG7 _ _, hbc5, hB2⟩
        · exact chain2_far (by omega) _ _
        · rw [hdr2.out]
          exact hnx7.same hbl (chain2_far (by omega) _ _)
end Go.Proofs.YbulkxgcDoor.Dc
