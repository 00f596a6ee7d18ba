import Derived.Test.YbulkxciNode
namespace Go.Proofs.Ybulkxci.Yields
open Go.RowKit

theorem info61 : (Yba.prog.info? 61).map (fun i => (i.zero, i.size, i.bytes)) = some (some (.pointer none), 1, 8) := by kernel_rfl
theorem info3 : (Yba.prog.info? 3).map (fun i => (i.zero, i.size, i.bytes)) = some (some (.int .i64 0), 1, 8) := by kernel_rfl

/-- from block number 'base' on nothing is said; below it only the blocks bp, bn may have turned -/
structure Kept (base bp bn : Nat) (w w' : World) : Prop where
  os : w'.os = w.os
  tape : w'.tape = w.tape
  output : w'.output = w.output
  size : w.heap.size ≤ w'.heap.size
  block : ∀ k, k < base → k ≠ bp → k ≠ bn → w'.heap[k]? = w.heap[k]?

theorem Kept.refl (base bp bn : Nat) (w : World) : Kept base bp bn w w := ⟨rfl, rfl, rfl, Nat.le_refl _, fun _ _ _ _ => rfl⟩
theorem Kept.trans {base bp bn : Nat} {a b c : World} (h : Kept base bp bn a b) (k : Kept base bp bn b c) : Kept base bp bn a c :=
  ⟨k.os.trans h.os, k.tape.trans h.tape, k.output.trans h.output, Nat.le_trans h.size k.size, fun i hi h1 h2 => (k.block i hi h1 h2).trans (h.block i hi h1 h2)⟩
theorem Kept.alloc {base bp bn : Nat} {a w : World} (h : Kept base bp bn a w) (hB : base ≤ w.heap.size) (o : Obj) : Kept base bp bn a (w.alloc o) :=
  h.trans ⟨rfl, rfl, rfl, by simp, fun k hk _ _ => Below.heap_alloc _ _ _ (by omega)⟩
theorem Kept.grown {base bp bn : Nat} {a w w' : World} {row : Option Nat} (h : Kept base bp bn a w) (hg : w.grownBy w' row) (hB : base ≤ w.heap.size) (hr : ∀ k, row = some k → base ≤ k) : Kept base bp bn a w' :=
  h.trans ⟨hg.os, hg.tape, hg.output, hg.size, fun k hk _ _ => hg.block k (by omega) (fun e => by have := hr k e.symm; omega)⟩
theorem Kept.setP {base bp bn : Nat} {a w : World} (h : Kept base bp bn a w) (u : Value) : Kept base bp bn a (w.setCell ⟨bp, 0, none⟩ u) :=
  h.trans ⟨rfl, rfl, rfl, by simp [World.setCell], fun _ _ h1 _ => Below.heap_setCell _ _ _ _ h1⟩
theorem Kept.setN {base bp bn : Nat} {a w : World} (h : Kept base bp bn a w) (u : Value) : Kept base bp bn a (w.setCell ⟨bn, 0, none⟩ u) :=
  h.trans ⟨rfl, rfl, rfl, by simp [World.setCell], fun _ _ _ h2 => Below.heap_setCell _ _ _ _ h2⟩
theorem Kept.below {base bp bn B : Nat} {w w' : World} (h : Kept base bp bn w w') (h1 : B ≤ base) (h2 : B ≤ bp) (h3 : B ≤ bn) : Below B w w' :=
  ⟨h.os, h.tape, h.output, h.size, fun k hk => h.block k (by omega) (by omega) (by omega)⟩

/-- what has been gathered so far -/
structure Got (base bp bn bl : Nat) (limit : Int) (ps ns : List Value) (vp vn : Value) (w : World) : Prop where
  p : w.heap[bp]? = some (.cells #[vp] 60 (0, 0))
  n : w.heap[bn]? = some (.cells #[vn] 56 (0, 0))
  l : w.heap[bl]? = some (.cells #[.int .i64 limit] 3 (0, 0))
  po : w.ownsRow base 61 1 vp ps.length ps
  no : w.ownsRow base 3 1 vn ns.length ns
  bpb : bp < base
  bnb : bn < base
  blb : bl < base
  ne : bp ≠ bn
  pl : bl ≠ bp
  nl : bl ≠ bn
  sz : base ≤ w.heap.size

/-- rows of two element types lie in two blocks -/
theorem own_ne {w : World} {base b2 e1 e2 n1 n2 : Nat} {v1 v2 : Value} {x1 x2 : List Value} (h1 : w.ownsRow base e1 1 v1 n1 x1) (h2 : w.ownsRow b2 e2 1 v2 n2 x2) (he : e1 ≠ e2) :
    v2.ownBlock = none ∨ v2.ownBlock ≠ v1.ownBlock := by
  rcases h2.2 with ⟨rfl, _⟩ | ⟨g2, c2, cur2, rfl, _, hg2, _⟩
  · exact .inl rfl
  · right
    rcases h1.2 with ⟨rfl, _⟩ | ⟨g1, c1, cur1, rfl, _, hg1, _⟩
    · simp [Value.ownBlock]
    · simp only [Value.ownBlock, ne_eq, Option.some.injEq]
      intro e
      subst e
      rw [hg1] at hg2
      simp only [Option.some.injEq, Obj.cells.injEq] at hg2
      exact he hg2.2.1

/-- the first append of a round: the pointer -/
theorem Got.stepP {base bp bn bl : Nat} {limit : Int} {ps ns : List Value} {vp vn : Value} {w w1 : World} {v' : Value} {x : Value} {o : Obj}
    (h : Got base bp bn bl limit ps ns vp vn w) (hown : w1.ownsRow base 61 1 v' (ps.length + 1) (ps ++ [x])) (hg : (w.alloc o).grownBy w1 vp.ownBlock) :
    Got base bp bn bl limit (ps ++ [x]) ns v' vn (w1.setCell ⟨bp, 0, none⟩ v') ∧ Kept base bp bn w (w1.setCell ⟨bp, 0, none⟩ v') := by
  have hrow : ∀ k, vp.ownBlock = some k → base ≤ k := fun k hk => (h.po.lt k hk).1
  have hsz := h.sz
  have hb : ∀ k, k < base → w1.heap[k]? = w.heap[k]? := fun k hk => by
    rw [hg.block k (by simp; omega) (fun e => by have := hrow k e.symm; omega)]
    exact Below.heap_alloc _ _ _ (by omega)
  have hK : Kept base bp bn w w1 := ((Kept.refl base bp bn w).alloc h.sz o).grown hg (by simp; omega) hrow
  refine ⟨⟨one_setCell (by rw [hb bp h.bpb]; exact h.p), ?_, ?_, ?_, ?_, h.bpb, h.bnb, h.blb, h.ne, h.pl, h.nl, by have := hK.size; simp [World.setCell]; omega⟩, hK.setP v'⟩
  · rw [Below.heap_setCell _ _ _ _ (by exact h.ne.symm), hb bn h.bnb]; exact h.n
  · rw [Below.heap_setCell _ _ _ _ (by exact h.pl), hb bl h.blb]; exact h.l
  · have := ownsRow_setCell_below hown (a := ⟨bp, 0, none⟩) h.bpb v'
    simpa using this
  · exact ownsRow_setCell_below (((h.no.alloc o)).kept hg (own_ne h.po h.no (by decide))) (a := ⟨bp, 0, none⟩) h.bpb v'

/-- the second: the node -/
theorem Got.stepN {base bp bn bl : Nat} {limit : Int} {ps ns : List Value} {vp vn : Value} {w w1 : World} {v' : Value} {x : Value} {o : Obj}
    (h : Got base bp bn bl limit ps ns vp vn w) (hown : w1.ownsRow base 3 1 v' (ns.length + 1) (ns ++ [x])) (hg : (w.alloc o).grownBy w1 vn.ownBlock) :
    Got base bp bn bl limit ps (ns ++ [x]) vp v' (w1.setCell ⟨bn, 0, none⟩ v') ∧ Kept base bp bn w (w1.setCell ⟨bn, 0, none⟩ v') := by
  have hrow : ∀ k, vn.ownBlock = some k → base ≤ k := fun k hk => (h.no.lt k hk).1
  have hsz := h.sz
  have hb : ∀ k, k < base → w1.heap[k]? = w.heap[k]? := fun k hk => by
    rw [hg.block k (by simp; omega) (fun e => by have := hrow k e.symm; omega)]
    exact Below.heap_alloc _ _ _ (by omega)
  have hK : Kept base bp bn w w1 := ((Kept.refl base bp bn w).alloc h.sz o).grown hg (by simp; omega) hrow
  refine ⟨⟨?_, one_setCell (by rw [hb bn h.bnb]; exact h.n), ?_, ?_, ?_, h.bpb, h.bnb, h.blb, h.ne, h.pl, h.nl, by have := hK.size; simp [World.setCell]; omega⟩, hK.setN v'⟩
  · rw [Below.heap_setCell _ _ _ _ (by exact h.ne), hb bp h.bpb]; exact h.p
  · rw [Below.heap_setCell _ _ _ _ (by exact h.nl), hb bl h.blb]; exact h.l
  · exact ownsRow_setCell_below (((h.po.alloc o)).kept hg (own_ne h.no h.po (by decide))) (a := ⟨bn, 0, none⟩) h.bnb v'
  · have := ownsRow_setCell_below hown (a := ⟨bn, 0, none⟩) h.bnb v'
    simpa using this

theorem own_len {w : World} {base e n : Nat} {v : Value} {xs : List Value} (h : w.ownsRow base e 1 v n xs) : ∃ a c, v = .slice a n c := by
  rcases h.2 with ⟨rfl, rfl⟩ | ⟨g, c, cur, rfl, _⟩
  · exact ⟨_, _, rfl⟩
  · exact ⟨_, _, rfl⟩

set_option maxHeartbeats 400000 in
set_option maxRecDepth 1000000 in
theorem yield_any (base bp bn bl : Nat) (limit node : Int) (ps ns : List Value) (vp vn : Value) (p : Option Addr) (w : World)
    (h : Got base bp bn bl limit ps ns vp vn w) (hp : ps.length ≤ 1024) (hn : ns.length ≤ 1024) :
    Calls Yba.prog 14 #[.pointer p, .int .i64 node, .pointer (some ⟨bp, 0, none⟩), .pointer (some ⟨bn, 0, none⟩), .pointer (some ⟨bl, 0, none⟩)] w fun e w' =>
      e = .returned (.bool (decide ((ps.length : Int) + 1 < limit))) ∧ (∃ vp' vn', Got base bp bn bl limit (ps ++ [.pointer p]) (ns ++ [.int .i64 node]) vp' vn' w') ∧ Kept base bp bn w w' := by
  obtain ⟨i0, hi, hz0, hz1, hz2⟩ := info_parts info61
  obtain ⟨i1, hj, hj0, hj1, hj2⟩ := info_parts info3
  have cp := cell_of_one h.p
  have fp := free_of_one h.p
  have cn := cell_of_one h.n
  have fn := free_of_one h.n
  go_enter Yba.func14, Yba.ntmps14
  go_wp2_with (at_builtin; refine wpList_append_own _ rfl (.tmp 8) (.tmp 10) 60 rfl base 61 i0 (.pointer none) 1 8 Yba.underlying60 hi hz0 hz1 hz2 rfl (by decide) _ _ _ rfl (h.po.alloc _) ⟨w.heap.size, 0, none⟩ 1 1 [.pointer p] rfl rfl ?c1 ?c2 ?c3 ?c4 ?c5 ?_)
  case c1 =>
    intro j u hj
    match j, hj with
    | 0, hj => simp at hj; subst hj; simp [Addr.add]
  case c2 => intro u hu; simp at hu; subst hu; rfl
  case c3 => unfold maxLen; omega
  case c4 => omega
  case c5 => have := h.sz; simp; omega
  intro v' w1 hown hg _
  obtain ⟨a1, c1, hv⟩ := own_len hown
  subst hv
  have R := h.stepP hown hg
  have hK1 := R.2
  have h2 := R.1
  have hb1 : w1.heap[bp]? = w.heap[bp]? := by
    rw [hg.block bp (by have := h.sz; have := h.bpb; simp; omega) (fun e => by have := (h.po.lt bp e.symm).1; have := h.bpb; omega)]
    exact Below.heap_alloc _ _ _ (by have := h.sz; have := h.bpb; omega)
  have fp1 := free_of_one (hb1.trans h.p)
  have cp1 := cell_of_one (hb1.trans h.p)
  clear hown hg cp fp cn fn R hb1
  have cn := cell_of_one h2.n
  go_wp2_with (at_builtin; go_must (refine wpList_append_own _ rfl (.tmp 12) (.tmp 14) 56 rfl base 3 i1 (.int .i64 0) 1 8 Yba.underlying56 hj hj0 hj1 hj2 rfl (by decide) _ _ _ rfl (h2.no.alloc _) ⟨w1.heap.size, 0, none⟩ 1 1 [.int .i64 node] rfl rfl ?d1 ?d2 ?d3 ?d4 ?d5 ?_))
  case d1 =>
    intro j u hj
    match j, hj with
    | 0, hj =>
      simp at hj; subst hj; simp only [Addr.add_lit]
      rw [World.cell?_alloc_at _ _ _ _ (by simp)]; rfl
  case d2 => intro u hu; simp at hu; subst hu; rfl
  case d3 => unfold maxLen; omega
  case d4 => omega
  case d5 => have := h2.sz; simp at this ⊢; omega
  intro v' w3 hown hg _
  obtain ⟨a3, c3, hv⟩ := own_len hown
  subst hv
  have R := h2.stepN hown hg
  have hK3 := hK1.trans R.2
  have h3 := R.1
  have hsz2 : base ≤ w1.heap.size := by simpa using h2.sz
  have hb3 := hg.block bn (by have := h2.bnb; simp; omega) (fun e => by have := (h2.no.lt bn e.symm).1; have := h2.bnb; omega)
  rw [Below.heap_alloc _ _ _ (by have := h2.bnb; simp; omega)] at hb3
  have fn3 := free_of_one (hb3.trans h2.n)
  have cn3 := cell_of_one (hb3.trans h2.n)
  clear hown hg cn R fp1 cp1 hK1 h2 hb3 hsz2
  have cp := cell_of_one h3.p
  have cl := cell_of_one h3.l
  go_wp2
  go_ret
  exact ⟨rfl, ⟨_, _, h3⟩, hK3⟩
end Go.Proofs.Ybulkxci.Yields
