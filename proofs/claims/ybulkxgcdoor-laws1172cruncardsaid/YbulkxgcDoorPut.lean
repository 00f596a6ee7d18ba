import Derived.Test.YbulkxgcDoorDecode
namespace Go.Proofs.YbulkxgcDoor.Dc
open Go.RowKit
open _root_.Go.Proofs.YbulkxgcDoor.Bt

/-- the bytes of the bits -/
def bytesOf (bs : List Bool) : List Value := (List.range ((bs.length + 7) / 8)).map fun i => .int .u8 (Bt.byteOf bs i)

/-- the writer: its bits so far -/
structure Wr (w : World) (B bw : Nat) (v : Value) (bs : List Bool) : Prop where
  row : w.heap[bw]? = some (.cells #[v, .int .i64 bs.length] 48 (0, 0))
  own : w.ownsRow B 5 1 v ((bs.length + 7) / 8) (bytesOf bs)
  lt : bw < B

theorem byte_info : ∃ i, Ybad.prog.info? 5 = some i ∧ i.zero = some (.int .u8 0) ∧ i.size = 1 ∧ i.bytes = 1 := ⟨_, rfl, rfl, rfl, rfl⟩

theorem bytesOf_length (bs : List Bool) : (bytesOf bs).length = (bs.length + 7) / 8 := by simp [bytesOf]
theorem bytesOf_get (bs : List Bool) (i : Nat) (h : i < (bs.length + 7) / 8) : (bytesOf bs)[i]? = some (.int .u8 (Bt.byteOf bs i)) := by simp [bytesOf, h]

/-- a bit more, a new byte -/
theorem bytes_new (bs : List Bool) (h : bs.length % 8 = 0) : bytesOf bs ++ [.int .u8 0] = bytesOf (bs ++ [false]) := by
  have hl : (bs.length + 1 + 7) / 8 = (bs.length + 7) / 8 + 1 := by omega
  unfold bytesOf
  rw [List.length_append, List.length_singleton, hl, List.range_succ, List.map_append]
  congr 1
  · apply List.map_congr_left
    intro i _
    rw [byteOf_false]
  · simp only [List.map_cons, List.map_nil]
    rw [byteOf_false, byteOf_past _ _ (by omega)]
    rfl
/-- a bit more in the last byte: clear -/
theorem bytes_zero (bs : List Bool) (h : bs.length % 8 ≠ 0) : bytesOf bs = bytesOf (bs ++ [false]) := by
  have hl : (bs.length + 1 + 7) / 8 = (bs.length + 7) / 8 := by omega
  unfold bytesOf
  rw [List.length_append, List.length_singleton, hl]
  apply List.map_congr_left
  intro i _
  rw [byteOf_false]
/-- set -/
theorem bytes_set (bs : List Bool) : (bytesOf (bs ++ [false])).set (bs.length / 8) (.int .u8 (Bt.byteOf bs (bs.length / 8) ||| 2 ^ (7 - bs.length % 8) : Nat)) = bytesOf (bs ++ [true]) := by
  apply List.ext_getElem?
  intro i
  have hl : ∀ b : Bool, (bs ++ [b]).length = bs.length + 1 := fun b => by simp
  rw [List.getElem?_set]
  by_cases hi : i < (bs.length + 1 + 7) / 8
  · rw [bytesOf_get _ _ (by rw [hl]; exact hi), bytesOf_get _ _ (by rw [hl]; exact hi), bytesOf_length, hl]
    split
    · rename_i he
      subst he
      rw [if_pos hi, byteOf_true]
    · rename_i he
      rw [byteOf_other _ _ _ (Ne.symm he), byteOf_other _ _ _ (Ne.symm he)]
  · have h1 : (bytesOf (bs ++ [false]))[i]? = none := List.getElem?_eq_none (by rw [bytesOf_length, hl]; omega)
    have h2 : (bytesOf (bs ++ [true]))[i]? = none := List.getElem?_eq_none (by rw [bytesOf_length, hl]; omega)
    rw [h1, h2, bytesOf_length, hl]
    split
    · rw [if_neg (by omega)]
    · rfl

/-- what 'put' leaves as it was: every block but the writer's and the rows of bytes from B on -/
structure Fr (B bw : Nat) (w w' : World) : Prop where
  os : w'.os = w.os
  tape : w'.tape = w.tape
  output : w'.output = w.output
  size : w.heap.size ≤ w'.heap.size
  block : ∀ j, j < w.heap.size → j ≠ bw → (j < B ∨ ∀ cur, w.heap[j]? ≠ some (.cells cur 5 (0, 0))) → w'.heap[j]? = w.heap[j]?
theorem Fr.refl (B bw : Nat) (w : World) : Fr B bw w w := ⟨rfl, rfl, rfl, Nat.le_refl _, fun _ _ _ _ => rfl⟩
theorem Fr.trans {B bw : Nat} {a b c : World} (h : Fr B bw a b) (k : Fr B bw b c) : Fr B bw a c :=
  ⟨k.os.trans h.os, k.tape.trans h.tape, k.output.trans h.output, Nat.le_trans h.size k.size, fun j hj hn hc => by
    have e := h.block j hj hn hc
    have hc2 : j < B ∨ ∀ cur, b.heap[j]? ≠ some (.cells cur 5 (0, 0)) := by
      rcases hc with hc | hc
      · exact .inl hc
      · exact .inr fun cur hcur => hc cur (e ▸ hcur)
    exact (k.block j (Nat.lt_of_lt_of_le hj h.size) hn hc2).trans e⟩
theorem Fr.set {B bw : Nat} {a w : World} (h : Fr B bw a w) (o : Nat) (u : Value) : Fr B bw a (w.setCell ⟨bw, o, none⟩ u) :=
  h.trans ⟨rfl, rfl, rfl, by simp [World.setCell], fun _ _ hn _ => Below.heap_setCell _ _ _ _ hn⟩
theorem Fr.drew {B bw : Nat} {a w : World} (h : Fr B bw a w) : Fr B bw a w.drew := ⟨h.os, h.tape, h.output, h.size, h.block⟩
theorem Fr.below {B bw : Nat} {a w w' : World} (h : Fr B bw a w) (hb : Below w.heap.size w w') : Fr B bw a w' :=
  h.trans ⟨hb.os, hb.tape, hb.output, hb.size, fun j hj _ _ => hb.block j hj⟩
theorem Fr.row {B bw g cap n : Nat} {a w : World} {xs : List Value} (h : Fr B bw a w) (hown : w.ownsRow B 5 1 (.slice (some ⟨g, 0, none⟩) n cap) n xs) (o : Nat) (u : Value) : Fr B bw a (w.setCell ⟨g, o, none⟩ u) := by
  refine h.trans ⟨rfl, rfl, rfl, by simp [World.setCell], fun j _ _ hc => Below.heap_setCell _ _ _ _ ?_⟩
  rcases hown.2 with ⟨h2, _⟩ | ⟨g', c, cur, h2, h3, h4, _⟩
  · cases h2
  · cases h2
    rintro rfl
    rcases hc with hc | hc
    · have : j < B := hc
      have : B ≤ j := h3
      omega
    · exact hc cur h4
theorem Fr.grown {B bw n : Nat} {a w w' : World} {v : Value} {xs : List Value} (h : Fr B bw a w) (hown : w.ownsRow B 5 1 v n xs) (hg : w.grownBy w' v.ownBlock) : Fr B bw a w' := by
  refine h.trans ⟨hg.os, hg.tape, hg.output, hg.size, fun j hj _ hc => hg.block j hj ?_⟩
  rcases hown.2 with ⟨rfl, _⟩ | ⟨g, c, cur, rfl, h3, h4, _⟩
  · simp [Value.ownBlock]
  · intro he
    have he2 : g = j := by simpa [Value.ownBlock] using he.symm
    subst he2
    rcases hc with hc | hc
    · omega
    · exact hc cur h4
end Go.Proofs.YbulkxgcDoor.Dc
