import Derived.Test.YbulkxgcDoorPutW
namespace Go.Proofs.YbulkxgcDoor.Dc
open Go.RowKit
open _root_.Go.Proofs.YbulkxgcDoor.Bt

/-- the coder's numbers behind the steps -/
def run (s : Sn) (l : List Ab) : Sn := l.foldl nxt s
theorem run_snoc (s : Sn) (l : List Ab) (p : Ab) : run s (l ++ [p]) = nxt (run s l) p := by simp [run]
theorem ptsOf_snoc (l : List Ab) (p : Ab) : ∀ s, ptsOf s (l ++ [p]) = ptsOf s l ++ [(IntKind.i64.wrap (nxt (run s l) p).t, (nxt (run s l) p).m)] := by
  induction l with
  | nil => intro s; rfl
  | cons q l ih => intro s; simp only [List.cons_append, ptsOf, ih]; rfl
theorem bitsAll_snoc (l : List Ab) (p : Ab) : bitsAll (l ++ [p]) = bitsAll l ++ stepBits p := by simp [bitsAll]

theorem stepBits_len (p : Ab) : (stepBits p).length ≤ 20 := by
  unfold stepBits timeBits valBits
  split <;> split <;> simp [bitsOf_length]
theorem bitsAll_len (l : List Ab) : (bitsAll l).length ≤ 20 * l.length := by
  induction l with
  | nil => simp [bitsAll]
  | cons p l ih =>
    have := stepBits_len p
    have e : bitsAll (p :: l) = stepBits p ++ bitsAll l := rfl
    rw [e, List.length_append, List.length_cons]
    omega

/-- the zigzag of sixteen bits -/
def zig (v : Int) : Nat := if 0 ≤ v then (2 * v).toNat else (-2 * v - 1).toNat
theorem zig_lt {v : Int} (h1 : -32768 ≤ v) (h2 : v < 32768) : zig v < 65536 := by unfold zig; split <;> omega
theorem unz_zig {v : Int} (h1 : -32768 ≤ v) (h2 : v < 32768) : unz (zig v) = v := by
  unfold unz zig
  split <;> split <;> omega

theorem zig_bits {v : Int} (h1 : -32768 ≤ v) (h2 : v < 32768) : IntKind.u16.wrap (bits .xor .i16 (IntKind.i16.wrap (v * 2)) (v / 32768)) = (zig v : Int) := by
  have hw : ∀ n : Int, IntKind.u16.wrap n = n % 65536 := fun n => by simp [IntKind.wrap, IntKind.bits, IntKind.signed]
  have hi : ∀ n : Int, IntKind.i16.wrap n = (n + 32768) % 65536 - 32768 := fun n => by simp [IntKind.wrap, IntKind.bits, IntKind.signed]; omega
  show IntKind.u16.wrap (IntKind.i16.wrap ((BitVec.ofInt 16 (IntKind.i16.wrap (v * 2)) ^^^ BitVec.ofInt 16 (v / 32768)).toNat : Int)) = _
  unfold zig
  split
  · rw [show v / 32768 = 0 by omega, show BitVec.ofInt 16 0 = 0#16 from rfl, BitVec.xor_zero, BitVec.toNat_ofInt, hw, hi, hi]
    omega
  · rw [show v / 32768 = -1 by omega, show BitVec.ofInt 16 (-1) = BitVec.allOnes 16 by decide, BitVec.xor_allOnes, BitVec.toNat_not, BitVec.toNat_ofInt, hw, hi, hi]
    omega

/-- a chunk's bits -/
def chunkBits (v : Int) (l : List Ab) : List Bool := bitsOf 0 5 ++ (bitsOf 16 6 ++ (bitsOf (zig v) 16 ++ bitsAll l))
/-- a chunk's points -/
def chunkPts (first v : Int) (l : List Ab) : List (Int × Int) := (first, v) :: ptsOf ⟨IntKind.u64.wrap first, 0, v, 0⟩ l

theorem chunk_plan (first v : Int) (l : List Ab) (h1 : -32768 ≤ v) (h2 : v < 32768) (hl : l.length ≤ 1024) (hs : ∀ p ∈ l, Small p) (hf1 : -9223372036854775808 ≤ first) (hf2 : first ≤ 9223372036854775807) :
    Plan (chunkBits v l) 0 ⟨IntKind.u64.wrap first, 0, 0, 0⟩ true (chunkPts first v l) := by
  refine .inl ⟨rfl, zig v, l, zig_lt h1 h2, hs, hl, rfl, rfl, ?_⟩
  have e : IntKind.i64.wrap (IntKind.u64.wrap first) = first := by rw [IntKind.wrap_u64, IntKind.wrap_i64]; omega
  show _ = (IntKind.i64.wrap (IntKind.u64.wrap first), unz (zig v)) :: _
  rw [e, unz_zig h1 h2]
  rfl
theorem chunk_len (v : Int) (l : List Ab) (hl : l.length ≤ 1024) : (chunkBits v l).length ≤ 50000 := by
  have := bitsAll_len l
  simp only [chunkBits, List.length_append, bitsOf_length]
  omega
end Go.Proofs.YbulkxgcDoor.Dc
