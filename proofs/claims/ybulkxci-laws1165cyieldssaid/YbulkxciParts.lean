import Derived.Test.YbulkxciOn
import Derived.Laws.CopyOwn
import Derived.Deep.DeepCutAuto
namespace Go.Proofs.Ybulkxci.Yields
open Go.RowKit

theorem info4 : (Yba.prog.info? 4).map (fun i => (i.zero, i.size, i.bytes)) = some (some (.bool false), 1, 1) := by kernel_rfl

/-- the slice in use: nil, or a row of m bools of the call's own -/
def InUse (B : Nat) (w : World) (m : Nat) (v : Value) : Prop :=
  (v = .slice none 0 0 ∧ m = 0) ∨ ∃ g, ∃ ins : List Bool, v = .slice (some ⟨g, 0, none⟩) m m ∧ B ≤ g ∧ g < w.heap.size ∧ ∀ j, j < m → w.cell? ⟨g, j, none⟩ = some (.bool (ins.getD j false))

theorem InUse.shape {B : Nat} {w : World} {m : Nat} {v : Value} (h : InUse B w m v) : ∃ a, v = .slice a m m := by
  rcases h with ⟨rfl, rfl⟩ | ⟨g, ins, rfl, _⟩
  · exact ⟨_, rfl⟩
  · exact ⟨_, rfl⟩

/-- the nodes: nil, or a row of n numbers of the call's own -/
def Nodes (B : Nat) (w : World) (n m : Nat) (lay : Bool) (nd : Nat → Int) (v : Value) : Prop :=
  (v = .slice none 0 0 ∧ lay = false ∧ ∀ k, nd k = -1) ∨ ∃ g, v = .slice (some ⟨g, 0, none⟩) n n ∧ lay = true ∧ B ≤ g ∧ g < w.heap.size ∧ ∀ k, k < n → w.cell? ⟨g, k, none⟩ = some (.int .i64 (nd k)) ∧ nd k < m ∧ -2 ≤ nd k

/-- the argument 'in': its elements are bools -/
def InArg (w : World) (a : Option Addr) (n : Nat) (bs : List Bool) : Prop :=
  bs.length = n ∧ (0 < n → ∃ b off, a = some ⟨b, off, none⟩ ∧ b < w.heap.size ∧ ∀ j, j < n → w.cell? ⟨b, off + j, none⟩ = some (.bool (bs.getD j false)))
/-- the argument 'raw': its elements are numbers -/
def RawArg (w : World) (a : Option Addr) (n : Nat) (zs : List Int) : Prop :=
  0 < n → ∃ b off, a = some ⟨b, off, none⟩ ∧ b < w.heap.size ∧ ∀ j, j < n → w.cell? ⟨b, off + j, none⟩ = some (.int .i8 (zs.getD j 0))

theorem own_full {w : World} {base e g n : Nat} {xs : List Value} (h : w.ownsRow base e 1 (.slice (some ⟨g, 0, none⟩) n n) n xs) : w.heap[g]? = some (.cells xs.toArray e (0, 0)) ∧ xs.length = n := by
  rcases h.2 with ⟨h', _⟩ | ⟨g', cap, cur, h', _, hg, _, _, hs, ht⟩
  · simp at h'
  · simp only [Value.slice.injEq, Option.some.injEq, Addr.mk.injEq, and_true, true_and] at h'
    obtain ⟨rfl, rfl⟩ := h'
    have hl := h.1
    rw [List.take_of_length_le (by simp [hs])] at ht
    refine ⟨by rw [hg, ← ht], by omega⟩

/-- what the copy of 'in' leaves is a slice in use -/
theorem inUse_copied {B : Nat} {w : World} {g m : Nat} {bs : List Bool} {cur : List Value} (hg : w.heap[g]? = some (.cells (splice cur 0 (bs.map Value.bool)).toArray 4 (0, 0))) (hb : bs.length = m) (hc : cur.length = m) (hB : B ≤ g) :
    InUse B w m (.slice (some ⟨g, 0, none⟩) m m) := by
  refine .inr ⟨g, bs, rfl, hB, lt_of_block hg, fun j hj => ?_⟩
  have e : splice cur 0 (bs.map Value.bool) = bs.map Value.bool := by
    simp [splice, hb, ← hc]
  rw [cell_of_row w g j _ 4 (0, 0) hg, e]
  simp [List.getD, show j < bs.length by omega]

/-- one store more into the row of nodes -/
theorem nodes_step {B g n k : Nat} {w0 w : World} {xs : List Value} {f : Nat → Int} (hown : w.ownsRow B 3 1 (.slice (some ⟨g, 0, none⟩) n n) n xs) (hk : k < n) (hB : B ≤ g)
    (hx : ∀ j, j < k → xs[j]? = some (.int .i64 (f j))) (hb : Below B w0 w) :
    (∃ ys, (w.setCell ⟨g, k, none⟩ (.int .i64 (f k))).ownsRow B 3 1 (.slice (some ⟨g, 0, none⟩) n n) n ys ∧ ∀ j, j < k + 1 → ys[j]? = some (.int .i64 (f j))) ∧ Below B w0 (w.setCell ⟨g, k, none⟩ (.int .i64 (f k))) := by
  refine ⟨⟨xs.set k (.int .i64 (f k)), (hown.stored k _).1, fun j hj => ?_⟩, hb.setCell (by exact hB) _⟩
  have hl : xs.length = n := by simpa using hown.1
  by_cases e : j = k
  · subst e; simp [show j < xs.length by omega]
  · rw [List.getElem?_set_ne (by omega)]; exact hx j (by omega)

theorem InUse.kept {B : Nat} {w w' : World} {m : Nat} {v : Value} (h : InUse B w m v) (hb : Below w.heap.size w w') : InUse B w' m v := by
  rcases h with h | ⟨g, ins, hv, hB, hg, hc⟩
  · exact .inl h
  · exact .inr ⟨g, ins, hv, hB, by have := hb.size; omega, fun j hj => by rw [hb.cell (by exact hg)]; exact hc j hj⟩
theorem Nodes.shape {B : Nat} {w : World} {n m : Nat} {lay : Bool} {nd : Nat → Int} {v : Value} (h : Nodes B w n m lay nd v) : ∃ a l, v = .slice a l l := by
  rcases h with ⟨rfl, _⟩ | ⟨g, rfl, _⟩
  · exact ⟨_, _, rfl⟩
  · exact ⟨_, _, rfl⟩
theorem Nodes.kept {B : Nat} {w w' : World} {n m : Nat} {lay : Bool} {nd : Nat → Int} {v : Value} (h : Nodes B w n m lay nd v) (hb : Below w.heap.size w w') : Nodes B w' n m lay nd v := by
  rcases h with h | ⟨g, hv, hl, hB, hg, hc⟩
  · exact .inl h
  · exact .inr ⟨g, hv, hl, hB, by have := hb.size; omega, fun j hj => ⟨by rw [hb.cell (by exact hg)]; exact (hc j hj).1, (hc j hj).2⟩⟩
theorem Nodes.mono {B B' : Nat} {w : World} {n m : Nat} {lay : Bool} {nd : Nat → Int} {v : Value} (h : Nodes B w n m lay nd v) (hb : B' ≤ B) : Nodes B' w n m lay nd v := by
  rcases h with h | ⟨g, hv, hl, hB, hg⟩
  · exact .inl h
  · exact .inr ⟨g, hv, hl, by omega, hg⟩

theorem info65' : ∃ j z, Yba.prog.info? 65 = some j ∧ j.zero = some z ∧ j.bytes ≤ 100000 := by
  have h : (Yba.prog.info? 65).map (fun i => (i.zero.isSome, decide (i.bytes ≤ 100000))) = some (true, true) := by kernel_rfl
  obtain ⟨j, hj, hd⟩ := Option.map_eq_some_iff.1 h
  simp only [Prod.mk.injEq] at hd
  obtain ⟨z, hz⟩ := Option.isSome_iff_exists.1 hd.1
  exact ⟨j, z, hj, hz, of_decide_eq_true hd.2⟩

/-- one store more into a row -/
theorem row_step {B e g n k : Nat} {w : World} {xs : List Value} {f : Nat → Value} (hown : w.ownsRow B e 1 (.slice (some ⟨g, 0, none⟩) n n) n xs) (hk : k < n)
    (hx : ∀ j, j < k → xs[j]? = some (f j)) :
    ∃ ys, (w.setCell ⟨g, k, none⟩ (f k)).ownsRow B e 1 (.slice (some ⟨g, 0, none⟩) n n) n ys ∧ ∀ j, j < k + 1 → ys[j]? = some (f j) := by
  refine ⟨xs.set k (f k), (hown.stored k _).1, fun j hj => ?_⟩
  have hl : xs.length = n := by simpa using hown.1
  by_cases e : j = k
  · subst e; simp [show j < xs.length by omega]
  · rw [List.getElem?_set_ne (by omega)]; exact hx j (by omega)

/-- a row of which the first k cells are told -/
def RowTo (B e g n k : Nat) (f : Nat → Value) (w : World) : Prop := ∃ xs, w.ownsRow B e 1 (.slice (some ⟨g, 0, none⟩) n n) n xs ∧ ∀ j, j < k → xs[j]? = some (f j)

theorem RowTo.step {B e g n k : Nat} {f : Nat → Value} {w : World} (h : RowTo B e g n k f w) (hk : k < n) : RowTo B e g n (k + 1) f (w.setCell ⟨g, k, none⟩ (f k)) := by
  obtain ⟨xs, ho, hx⟩ := h
  exact row_step ho hk hx
theorem RowTo.other {B e g n k : Nat} {f : Nat → Value} {w : World} (h : RowTo B e g n k f w) {a : Addr} (ha : g ≠ a.block) (u : Value) : RowTo B e g n k f (w.setCell a u) := by
  obtain ⟨xs, ho, hx⟩ := h
  exact ⟨xs, ownsRow_setCell_other ho (by simpa [Value.ownBlock] using ha) u, hx⟩
theorem RowTo.cell {B e g n k : Nat} {f : Nat → Value} {w : World} (h : RowTo B e g n k f w) {j : Nat} (hj : j < n) : ∃ v, w.cell? ⟨g, j, none⟩ = some v := by
  obtain ⟨xs, ho, hx⟩ := h
  have hl : xs.length = n := by simpa using ho.1
  exact ⟨xs[j], by rw [ho.cellAt j (by omega)]; simp [show j < xs.length by omega]⟩
theorem RowTo.free {B e g n k : Nat} {f : Nat → Value} {w : World} (h : RowTo B e g n k f w) (j : Nat) : w.frozen? ⟨g, j, none⟩ = false := by
  obtain ⟨xs, ho, hx⟩ := h
  exact ho.frozenAt j
theorem RowTo.told {B e g n k : Nat} {f : Nat → Value} {w : World} (h : RowTo B e g n k f w) {j : Nat} (hj : j < n) (hk : j < k) : w.cell? ⟨g, j, none⟩ = some (f j) := by
  obtain ⟨xs, ho, hx⟩ := h
  rw [ho.cellAt j (by omega)]; exact hx j hk

/-- what providersOn hands back: the three captured boxes -/
structure Boxes (w' w'' : World) (bh gl n : Nat) (vI : Value) (b1 b2 b3 : Nat) : Prop where
  below : Below w'.heap.size w' w''
  l1 : w'.heap.size ≤ b1
  l2 : w'.heap.size ≤ b2
  l3 : w'.heap.size ≤ b3
  u1 : b1 < w''.heap.size
  u2 : b2 < w''.heap.size
  u3 : b3 < w''.heap.size
  c1 : w''.cell? ⟨b1, 0, none⟩ = some (.slice (some ⟨gl, 0, none⟩) n n)
  c2 : w''.cell? ⟨b2, 0, none⟩ = some (.pointer (some ⟨bh, 0, none⟩))
  c3 : w''.cell? ⟨b3, 0, none⟩ = some vI

theorem boxes_mk (w' : World) (bh gl n : Nat) (vI : Value) :
    Boxes w' (((w'.alloc (.cells #[.pointer (some ⟨bh, 0, none⟩)] 66)).alloc (.cells #[vI] 55)).alloc (.cells #[.slice (some ⟨gl, 0, none⟩) n n] 60)) bh gl n vI (w'.heap.size + 2) w'.heap.size (w'.heap.size + 1) := by
  refine ⟨(((Below.refl _ _).alloc (Nat.le_refl _) _).alloc (by simp) _).alloc (by simp; omega) _, by omega, by omega, by omega, by simp, by simp; omega, by simp, ?_, ?_, ?_⟩
  · rw [World.cell?_alloc_at _ _ _ _ (by simp)]; rfl
  · rw [World.cell?_alloc_past _ _ _ (by simp; omega), World.cell?_alloc_past _ _ _ (by simp), World.cell?_alloc_at _ _ _ _ rfl]; rfl
  · rw [World.cell?_alloc_past _ _ _ (by simp), World.cell?_alloc_at _ _ _ _ (by simp)]; rfl

/-- whatever the tree: the sequence over the list at gl -/
def TreeOk (wx : World) (bh gl n : Nat) (tree : Value) : Prop := ∀ (aI : Option Addr) (nI cI : Nat) (w' : World), Below wx.heap.size wx w' →
  Calls Yba.prog 13 #[.pointer (some ⟨bh, 0, none⟩), tree, .slice aI nI cI] w' fun e w'' =>
    ∃ b1 b2 b3, e = .returned (.func (.func 24) #[] #[.pointer (some ⟨b1, 0, none⟩), .pointer (some ⟨b2, 0, none⟩), .pointer (some ⟨b3, 0, none⟩)]) ∧ Boxes w' w'' bh gl n (.slice aI nI cI) b1 b2 b3

/-- the state behind the making of host and tree -/
structure St (w wx : World) (n m : Nat) (lay : Bool) (nd : Nat → Int) (vI vN : Value) (bh bt gl : Nat) (ptr : Nat → Option Addr) (tree : Value) : Prop where
  below : Below w.heap.size w wx
  U : InUse w.heap.size wx m vI
  N : Nodes w.heap.size wx n m lay nd vN
  bhl : bh < wx.heap.size
  btl : bt < wx.heap.size
  gll : gl < wx.heap.size
  h31 : wx.cell? ⟨bh, 31, none⟩ = some (.pointer (some ⟨bt, 0, none⟩))
  t2 : wx.cell? ⟨bt, 2, none⟩ = some vN
  l : ∀ j, j < n → wx.cell? ⟨gl, j, none⟩ = some (.pointer (ptr j))
  ok : TreeOk wx bh gl n tree

theorem st_both {w wr : World} {n m : Nat} {lay : Bool} {nd : Nat → Int} {vI vN : Value} {gp gb p0 p1 : Nat} {H O : Array Value} (hH : H[31]? = some (.pointer (some ⟨wr.heap.size, 0, none⟩)))
    (hB : Below w.heap.size w wr) (hU : InUse w.heap.size wr m vI) (hN : Nodes w.heap.size wr n m lay nd vN) (hgp : gp < wr.heap.size) (hgb : gb < wr.heap.size)
    (hcp : ∀ j, j < n → wr.cell? ⟨gp, j, none⟩ = some (.pointer (some ⟨p0, j * 5, none⟩))) (hcb : ∀ j, j < n → wr.cell? ⟨gb, j, none⟩ = some (.pointer (some ⟨p1, j * 5, none⟩))) :
    St w (((wr.alloc (.cells #[.slice (some ⟨gp, 0, none⟩) n n, .slice (some ⟨gb, 0, none⟩) n n, vN] 69)).alloc (.cells H 89)).alloc (.cells O 65)) n m lay nd vI vN (wr.heap.size + 1) wr.heap.size gp (fun j => some ⟨p0, j * 5, none⟩) (.pointer (some ⟨wr.heap.size + 1, 0, none⟩)) ∧
    St w (((wr.alloc (.cells #[.slice (some ⟨gp, 0, none⟩) n n, .slice (some ⟨gb, 0, none⟩) n n, vN] 69)).alloc (.cells H 89)).alloc (.cells O 65)) n m lay nd vI vN (wr.heap.size + 1) wr.heap.size gb (fun j => some ⟨p1, j * 5, none⟩) (.pointer (some ⟨wr.heap.size + 1 + 1, 0, none⟩)) := by
  obtain ⟨A, hA⟩ : ∃ A, A = (#[.slice (some ⟨gp, 0, none⟩) n n, .slice (some ⟨gb, 0, none⟩) n n, vN] : Array Value) := ⟨_, rfl⟩
  rw [← hA]
  obtain ⟨W, hW⟩ : ∃ W, W = ((wr.alloc (.cells A 69)).alloc (.cells H 89)).alloc (.cells O 65) := ⟨_, rfl⟩
  have hbW : Below wr.heap.size wr W := by
    rw [hW]; exact (((Below.refl _ _).alloc (Nat.le_refl _) _).alloc (by simp) _).alloc (by simp; omega) _
  have hsz : W.heap.size = wr.heap.size + 3 := by rw [hW]; simp
  have b0 : W.heap[wr.heap.size]? = some (.cells A 69 (0, 0)) := by
    rw [hW, Below.heap_alloc _ _ _ (by simp; omega), Below.heap_alloc _ _ _ (by simp)]; exact heap_alloc_new _ _
  have b1 : W.heap[wr.heap.size + 1]? = some (.cells H 89 (0, 0)) := by
    have := heap_alloc_new (wr.alloc (.cells A 69)) (.cells H 89)
    rw [hW, Below.heap_alloc _ _ _ (by simp)]
    simpa using this
  have b2 : W.heap[wr.heap.size + 1 + 1]? = some (.cells O 65 (0, 0)) := by
    have := heap_alloc_new ((wr.alloc (.cells A 69)).alloc (.cells H 89)) (.cells O 65)
    rw [hW]
    simpa using this
  have c31 : W.cell? ⟨wr.heap.size + 1, 31, none⟩ = some (.pointer (some ⟨wr.heap.size, 0, none⟩)) := by
    rw [cell_of_row W _ 31 H 89 (0, 0) b1]; exact hH
  have t0 : W.cell? ⟨wr.heap.size, 0, none⟩ = some (.slice (some ⟨gp, 0, none⟩) n n) := by
    rw [cell_of_row W _ 0 A 69 (0, 0) b0, hA]; rfl
  have t1 : W.cell? ⟨wr.heap.size, 1, none⟩ = some (.slice (some ⟨gb, 0, none⟩) n n) := by
    rw [cell_of_row W _ 1 A 69 (0, 0) b0, hA]; rfl
  have t2 : W.cell? ⟨wr.heap.size, 2, none⟩ = some vN := by
    rw [cell_of_row W _ 2 A 69 (0, 0) b0, hA]; rfl
  have hU' := hU.kept hbW
  have hN' := hN.kept hbW
  have hB' := hB.trans (hbW.mono hB.size)
  clear hA hU hN
  rw [← hW]
  clear hW
  refine ⟨⟨hB', hU', hN', by omega, by omega, by omega, c31, t2, fun j hj => by rw [hbW.cell (by exact hgp)]; exact hcp j hj, ?_⟩, ⟨hB', hU', hN', by omega, by omega, by omega, c31, t2, fun j hj => by rw [hbW.cell (by exact hgb)]; exact hcb j hj, ?_⟩⟩
  · intro aI nI cI w' hb
    have := hb.size
    refine (on_same (wr.heap.size + 1) wr.heap.size _ aI _ _ nI cI w' (by omega) (by omega) (by rw [hb.cell (by show wr.heap.size + 1 < _; omega)]; exact c31) (by rw [hb.cell (by show wr.heap.size < _; omega)]; exact t0)).mono ?_
    rintro e w'' ⟨he, hw⟩
    exact ⟨_, _, _, he, by rw [hw]; exact boxes_mk _ _ _ _ _⟩
  · intro aI nI cI w' hb
    have := hb.size
    refine (on_other (wr.heap.size + 1) wr.heap.size (wr.heap.size + 1 + 1) _ aI _ _ _ nI cI _ _ w' (by omega) (by omega) (by omega) (by omega) (by rw [hb.block _ (by omega)]; exact b2) (by rw [hb.block _ (by omega)]; exact b1) (by rw [hb.cell (by show wr.heap.size + 1 < _; omega)]; exact c31) (by rw [hb.cell (by show wr.heap.size < _; omega)]; exact t0) (by rw [hb.cell (by show wr.heap.size < _; omega)]; exact t1)).mono ?_
    rintro e w'' ⟨he, hw⟩
    exact ⟨_, _, _, he, by rw [hw]; exact boxes_mk _ _ _ _ _⟩

theorem Nodes.hi {B : Nat} {w : World} {n m : Nat} {lay : Bool} {nd : Nat → Int} {v : Value} (h : Nodes B w n m lay nd v) {j : Nat} (hj : j < n) : nd j < m := by
  rcases h with ⟨_, _, h⟩ | ⟨g, _, _, _, _, hc⟩
  · rw [h]; omega
  · exact (hc j hj).2.1

/-- which nodes are kept -/
def Keep (w : World) (m : Nat) (a : Option Addr) (keep : Int → Bool) : Prop :=
  (a = none ∧ ∀ x, keep x = true) ∨ ∃ g, ∃ ins : List Bool, a = some ⟨g, 0, none⟩ ∧ keep = lies ins ∧ g < w.heap.size ∧ ∀ j, j < m → w.cell? ⟨g, j, none⟩ = some (.bool (ins.getD j false))

theorem InUse.keep {B : Nat} {w : World} {m : Nat} {a : Option Addr} (h : InUse B w m (.slice a m m)) : ∃ keep, Keep w m a keep := by
  rcases h with ⟨h, _⟩ | ⟨g, ins, h, _, hg, hc⟩
  · simp only [Value.slice.injEq] at h
    exact ⟨fun _ => true, .inl ⟨h.1, fun _ => rfl⟩⟩
  · simp only [Value.slice.injEq] at h
    exact ⟨lies ins, .inr ⟨g, ins, h.1, rfl, hg, hc⟩⟩

/-- the two rows of what is expected, behind one round that keeps -/
theorem exp_step {B k : Nat} {nd : Nat → Int} {keep : Int → Bool} {ptr : Nat → Option Addr} {w0 wr w1 w2 : World} {vp vn vp' vn' : Value} {o1 o2 : Obj}
    (hk : keep (nd k) = true) (hBs : B ≤ wr.heap.size) (hb : Below B w0 wr)
    (hp : wr.ownsRow B 61 1 vp (E nd keep k).length ((E nd keep k).map fun j => .pointer (ptr j))) (hn : wr.ownsRow B 3 1 vn (E nd keep k).length ((E nd keep k).map fun j => .int .i64 (nd j)))
    (hp' : w1.ownsRow B 61 1 vp' ((E nd keep k).length + 1) ((E nd keep k).map (fun j => .pointer (ptr j)) ++ [.pointer (ptr k)])) (hg1 : (wr.alloc o1).grownBy w1 vp.ownBlock)
    (hn' : w2.ownsRow B 3 1 vn' ((E nd keep k).length + 1) ((E nd keep k).map (fun j => .int .i64 (nd j)) ++ [.int .i64 (nd k)])) (hg2 : (w1.alloc o2).grownBy w2 vn.ownBlock) :
    w2.ownsRow B 61 1 vp' (E nd keep (k + 1)).length ((E nd keep (k + 1)).map fun j => .pointer (ptr j)) ∧ w2.ownsRow B 3 1 vn' (E nd keep (k + 1)).length ((E nd keep (k + 1)).map fun j => .int .i64 (nd j)) ∧ Below B w0 w2 := by
  have hn1 : w1.ownsRow B 3 1 vn (E nd keep k).length ((E nd keep k).map fun j => .int .i64 (nd j)) := (hn.alloc o1).kept hg1 (own_ne hp hn (by decide))
  have hs1 := hg1.size
  simp at hs1
  rw [E_keep nd keep k hk]
  refine ⟨?_, by simpa using hn', ?_⟩
  · have := (hp'.alloc o2).kept hg2 (own_ne hn1 hp' (by decide))
    simpa using this
  · exact (((hb.alloc hBs o1).grown hg1 (by simp; omega) (fun k hk => (hp.lt k hk).1)).alloc (by omega) o2).grown hg2 (by simp; omega) (fun k hk => (hn.lt k hk).1)

theorem R_len (nd : Nat → Int) (keep : Int → Bool) (n : Nat) (limit : Int) : ((R nd keep n limit).length : Int) = if max limit 1 < ((E nd keep n).length : Int) then max limit 1 else ((E nd keep n).length : Int) := by
  unfold R
  rw [List.length_take]
  split <;> omega

/-- the call of the sequence -/
theorem ready {w wx wr : World} {n m : Nat} {lay : Bool} {nd : Nat → Int} {aI : Option Addr} {vN : Value} {bh bt gl : Nat} {ptr : Nat → Option Addr} {tree : Value} {keep : Int → Bool}
    (hS : St w wx n m lay nd (.slice aI m m) vN bh bt gl ptr tree) (hKp : Keep wx m aI keep) (hn : n ≤ 1024) (hB : Below wx.heap.size wx wr) (L : Int) {W3 w'' : World} {b1 b2 b3 : Nat}
    (hW3 : W3 = ((wr.alloc (.cells #[.int .i64 L] 3)).alloc (.cells #[.slice none 0 0] 60)).alloc (.cells #[.slice none 0 0] 56)) (hb : Boxes W3 w'' bh gl n (.slice aI m m) b1 b2 b3) :
    Calls Yba.prog 24 #[.func (.func 14) #[] #[.pointer (some ⟨wr.heap.size + 1, 0, none⟩), .pointer (some ⟨wr.heap.size + 1 + 1, 0, none⟩), .pointer (some ⟨wr.heap.size, 0, none⟩)], .pointer (some ⟨b1, 0, none⟩), .pointer (some ⟨b2, 0, none⟩), .pointer (some ⟨b3, 0, none⟩)] w'' fun e w' =>
      e = .returned (.tuple #[]) ∧ (∃ vp' vn', Got w''.heap.size (wr.heap.size + 1) (wr.heap.size + 1 + 1) wr.heap.size L ((R nd keep n L).map fun j => .pointer (ptr j)) ((R nd keep n L).map fun j => .int .i64 (nd j)) vp' vn' w') ∧ Kept w''.heap.size (wr.heap.size + 1) (wr.heap.size + 1 + 1) w'' w' := by
  have hs0 := hB.size
  have hbW : Below wr.heap.size wr W3 := by
    rw [hW3]; exact (((Below.refl _ _).alloc (Nat.le_refl _) _).alloc (by simp) _).alloc (by simp; omega) _
  have hsz : W3.heap.size = wr.heap.size + 3 := by rw [hW3]; simp
  have hs1 := hb.below.size
  have b0 : W3.heap[wr.heap.size]? = some (.cells #[.int .i64 L] 3 (0, 0)) := by
    rw [hW3, Below.heap_alloc _ _ _ (by simp; omega), Below.heap_alloc _ _ _ (by simp)]; exact heap_alloc_new _ _
  have bb1 : W3.heap[wr.heap.size + 1]? = some (.cells #[.slice none 0 0] 60 (0, 0)) := by
    have := heap_alloc_new (wr.alloc (.cells #[.int .i64 L] 3)) (.cells #[.slice none 0 0] 60)
    rw [hW3, Below.heap_alloc _ _ _ (by simp)]
    simpa using this
  have bb2 : W3.heap[wr.heap.size + 1 + 1]? = some (.cells #[.slice none 0 0] 56 (0, 0)) := by
    have := heap_alloc_new ((wr.alloc (.cells #[.int .i64 L] 3)).alloc (.cells #[.slice none 0 0] 60)) (.cells #[.slice none 0 0] 56)
    rw [hW3]
    simpa using this
  have hall : Below wx.heap.size wx w'' := (hB.trans (hbW.mono hs0)).trans (hb.below.mono (by omega))
  have at_old : ∀ b o v, b < wx.heap.size → wx.cell? ⟨b, o, none⟩ = some v → At w''.heap.size (wr.heap.size + 1) (wr.heap.size + 1 + 1) w'' b o v := fun b o v hbl hc =>
    ⟨by omega, by omega, by omega, by rw [hall.cell (by exact hbl)]; exact hc⟩
  have hl1 := hb.l1
  have hl2 := hb.l2
  have hl3 := hb.l3
  refine seq_any w''.heap.size (wr.heap.size + 1) (wr.heap.size + 1 + 1) wr.heap.size L (.slice none 0 0) (.slice none 0 0) w'' n hn b1 b2 b3 gl bh bt ptr nd keep vN (.slice aI m m)
    ⟨by rw [hb.below.block _ (by omega)]; exact bb1, by rw [hb.below.block _ (by omega)]; exact bb2, by rw [hb.below.block _ (by omega)]; exact b0, World.ownsRow_nil _ _ _ _, World.ownsRow_nil _ _ _ _, by omega, by omega, by omega, by omega, by omega, by omega, Nat.le_refl _⟩
    ⟨hb.u1, by omega, by omega, hb.c1⟩ ⟨hb.u2, by omega, by omega, hb.c2⟩ ⟨hb.u3, by omega, by omega, hb.c3⟩
    (fun k hk => at_old gl k _ hS.gll (hS.l k hk)) ?_ ?_ (at_old bh 31 _ hS.bhl hS.h31) (at_old bt 2 _ hS.btl hS.t2)
  · rcases hS.N with ⟨h1, _, h2⟩ | ⟨g, hv, _, _, hg, hc⟩
    · exact .inl ⟨h1, h2⟩
    · exact .inr ⟨g, hv, fun k hk => at_old g k _ hg (hc k hk).1⟩
  · rcases hKp with ⟨h1, h2⟩ | ⟨g, ins, hv, hkp, hg, hc⟩
    · have hU := hS.U
      rcases hU with ⟨h3, _⟩ | ⟨g, ins, hv, _⟩
      · exact .inl ⟨h3, h2⟩
      · rw [h1] at hv; simp at hv
    · exact .inr ⟨g, m, ins, by rw [hv], fun j hj => at_old g j _ hg (hc j hj), hkp, fun k hk => hS.N.hi hk⟩

/-- the cells of what is owned -/
theorem own_cells {w : World} {base e n : Nat} {v : Value} {xs : List Value} (h : w.ownsRow base e 1 v n xs) (hn : 0 < n) : ∃ g c, v = .slice (some ⟨g, 0, none⟩) n c ∧ base ≤ g ∧ g < w.heap.size ∧ ∀ i, i < n → w.cell? ⟨g, i, none⟩ = xs[i]? := by
  rcases h.2 with ⟨_, h0⟩ | ⟨g, cap, cur, rfl, hb, hg, _, _, _, _⟩
  · omega
  · exact ⟨g, cap, rfl, hb, lt_of_block hg, fun i hi => h.cellAt i (by omega)⟩

theorem R_at (nd : Nat → Int) (keep : Int → Bool) (n : Nat) (limit : Int) (i : Nat) (hi : i < (R nd keep n limit).length) : ∃ x, (R nd keep n limit)[i]? = some x ∧ (E nd keep n)[i]? = some x := by
  refine ⟨(R nd keep n limit)[i], by simp [hi], ?_⟩
  unfold R at hi ⊢
  rw [List.getElem_take]
  rw [List.length_take] at hi
  simp [show i < (E nd keep n).length by omega]

theorem R_le (nd : Nat → Int) (keep : Int → Bool) (n : Nat) (limit : Int) : (R nd keep n limit).length ≤ (E nd keep n).length := by
  unfold R
  rw [List.length_take]
  omega

theorem neq_refl (w : World) (p : Option Addr) : (binOp .neq 61 (.pointer p) (.pointer p)).run Yba.prog w = .ok (.bool false) w := by
  cases p with
  | some a => exact neq_same w a
  | none =>
    have h : Yba.prog.underlying 61 = some (.pointer (Yba.prog.pointee 61)) := by simp [Program.pointee, Yba.underlying61]
    rw [run_neq_pointer_nil w 61 none h]; rfl

end Go.Proofs.Ybulkxci.Yields
