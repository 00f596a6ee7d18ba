import Derived.Test.YbulkxgcDoorChP
namespace Go.Proofs.YbulkxgcDoor.Dc
open Go.RowKit
open _root_.Go.Proofs.YbulkxgcDoor.Bt

/-- the steps in memory -/
def Steps (w : World) (so : Option Addr) (l : List Ab) : Prop :=
  ∀ i, (h : i < l.length) → ∃ b o, so = some ⟨b, o, none⟩ ∧ b < w.heap.size ∧ w.cell? ⟨b, o + i * 2, none⟩ = some (.int .i8 l[i].1) ∧ w.cell? ⟨b, o + i * 2 + 1, none⟩ = some (.int .i8 l[i].2)

set_option maxHeartbeats 1000000 in
set_option maxRecDepth 100000 in
theorem chunk_empty (first v : Int) (so : Option Addr) (l c : Nat) (w : World) :
    Calls Ybad.prog 5 #[.int .i64 first, .int .i16 v, .slice so l c, .bool true] w fun e w' => e = .returned (.tuple #[.slice none 0 0, .slice none 0 0]) ∧ w' = w := by
  go_enter Ybad.func5, Ybad.ntmps5
  go_wp2
  go_ret2
  exact ⟨rfl, rfl⟩

theorem Fr.bel {B : Nat} {a b : World} (h : Fr (B + 1) B a b) (hB : B ≤ a.heap.size) : Below B a b :=
  ⟨h.os, h.tape, h.output, h.size, fun j hj => h.block j (by omega) (by omega) (.inl (by omega))⟩
theorem own_cells {w : World} {base : Nat} {e : TypeId} {size R k cap : Nat} {xs : List Value} (h : w.ownsRow base e size (.slice (some ⟨R, 0, none⟩) k cap) k xs) : ∃ cur, w.heap[R]? = some (.cells cur e (0, 0)) := by
  rcases h.2 with ⟨h2, _⟩ | ⟨g, c, cur, h2, _, h4, _⟩
  · cases h2
  · cases h2; exact ⟨cur, h4⟩
theorem own_fr {B bw : Nat} {w w' : World} {base R k cap : Nat} {xs : List Value} (h : w.ownsRow base 42 2 (.slice (some ⟨R, 0, none⟩) k cap) k xs) (hf : Fr B bw w w') (hn : R ≠ bw) : w'.ownsRow base 42 2 (.slice (some ⟨R, 0, none⟩) k cap) k xs := by
  obtain ⟨cur, hc⟩ := own_cells h
  exact own_same h (hf.block R (lt_of_block hc) hn (.inr fun cur' h' => by rw [hc] at h'; cases h'))
theorem Wr.same {w w' : World} {B bw : Nat} {v : Value} {bs : List Bool} (h : Wr w B bw v bs) (hb : w'.heap[bw]? = w.heap[bw]?) (hg : ∀ g, v.ownBlock = some g → w'.heap[g]? = w.heap[g]?) : Wr w' B bw v bs := by
  refine ⟨hb.trans h.row, ?_, h.lt⟩
  obtain ⟨h1, h2⟩ := h.own
  refine ⟨h1, ?_⟩
  rcases h2 with h2 | ⟨g, c, cur, h2, h3, h4, h5⟩
  · exact .inl h2
  · exact .inr ⟨g, c, cur, h2, h3, (hg g (by rw [h2]; rfl)).trans h4, h5⟩
theorem Wr.below {w w' : World} {B bw : Nat} {v : Value} {bs : List Bool} (h : Wr w B bw v bs) (hb : Below w.heap.size w w') : Wr w' B bw v bs :=
  h.same (hb.block _ (lt_of_block h.row)) (fun g hg => hb.block g (h.own.lt g hg).2)
/-- the points' row grows: the bytes' row is another -/
theorem Wr.grown {w w' : World} {B bw R : Nat} {v : Value} {bs : List Bool} {cur : Array Value} (h : Wr w B bw v bs) (hR : w.heap[R]? = some (.cells cur 42 (0, 0))) (hn : R ≠ bw) (hg : w.grownBy w' (some R)) : Wr w' B bw v bs := by
  refine h.same (hg.block bw (lt_of_block h.row) (by simpa using Ne.symm hn)) (fun g hgv => hg.block g (h.own.lt g hgv).2 ?_)
  rcases h.own.2 with ⟨rfl, _⟩ | ⟨g', c, cur', rfl, _, h4, _⟩
  · cases hgv
  · have he : g' = g := by simpa [Value.ownBlock] using hgv
    subst he
    have hne : g' ≠ R := fun h' => by subst h'; rw [hR] at h4; cases h4
    simpa using hne
end Go.Proofs.YbulkxgcDoor.Dc
