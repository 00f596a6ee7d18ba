import Derived.Test.YbulkxgcDoorChW
namespace Go.Proofs.YbulkxgcDoor.Dc
open Go.RowKit
open _root_.Go.Proofs.YbulkxgcDoor.Bt

theorem pts_small (l : List Ab) : ∀ s, Good s l.length → (∀ p ∈ l, Small p) → ∀ q ∈ ptsOf s l, q.2.natAbs ≤ 2147483648 := by
  induction l with
  | nil => intro s _ _ q hq; cases hq
  | cons p l ih =>
    intro s hg hs q hq
    have hn := hg.next p (hs p (by simp))
    simp only [ptsOf, List.mem_cons] at hq
    rcases hq with rfl | hq
    · exact hn.2
    · exact ih _ hn.1 (fun p hp => hs p (List.mem_cons_of_mem _ hp)) q hq

theorem chunkPts_small (first v : Int) (l : List Ab) (h1 : -32768 ≤ v) (h2 : v < 32768) (hl : l.length ≤ 1024) (hs : ∀ p ∈ l, Small p) : ∀ q ∈ chunkPts first v l, q.2.natAbs ≤ 2147483648 := by
  intro q hq
  simp only [chunkPts, List.mem_cons] at hq
  rcases hq with rfl | hq
  · show v.natAbs ≤ _
    omega
  · refine pts_small l _ ⟨hl, Int.le_refl 0, (by decide : (0 : Int) < 18446744073709551616), ?_, ?_⟩ hs q hq
    · show (0 : Int).natAbs ≤ _
      simp
    · show v.natAbs ≤ _
      omega
theorem chunkPts_length (first v : Int) (l : List Ab) : (chunkPts first v l).length = l.length + 1 := by simp [chunkPts, ptsOf_length]

/-- a row of points, or nil -/
def PtRow (w : World) (so : Option Addr) (P : List (Int × Int)) : Prop :=
  (so = none ∧ P = []) ∨ ∃ R, so = some ⟨R, 0, none⟩ ∧ R < w.heap.size ∧ ∀ j u, (ptCells P)[j]? = some u → w.cell? ⟨R, j, none⟩ = some u
theorem PtRow.below {w w' : World} {so : Option Addr} {P : List (Int × Int)} (h : PtRow w so P) (hb : Below w.heap.size w w') : PtRow w' so P := by
  rcases h with h | ⟨R, h1, h2, h3⟩
  · exact .inl h
  · exact .inr ⟨R, h1, Nat.lt_of_lt_of_le h2 hb.size, fun j u hu => (hb.cell (p := ⟨R, j, none⟩) h2).trans (h3 j u hu)⟩

/-- what a call of zzs1172cchunk leaves -/
structure ChR (w : World) (first : Int) (sd : Option Addr) (ld cd : Nat) (sp : Option Addr) (P : List (Int × Int)) : Prop where
  data : Data w w.heap.size (.slice sd ld cd) 0 ⟨IntKind.u64.wrap first, 0, 0, 0⟩ true P
  row : PtRow w sp P
  le : P.length ≤ 1025
  small : ∀ q ∈ P, q.2.natAbs ≤ 2147483648
theorem Data.more {w : World} {B C : Nat} {vd : Value} {off : Nat} {s : Sn} {first : Bool} {pts : List (Int × Int)} (h : Data w B vd off s first pts) (hb : B ≤ C) : Data w C vd off s first pts := by
  refine ⟨h.1, ?_⟩
  rcases h.2 with h | ⟨g, nb, cap, bs, h1, h2, h3, h4⟩
  · exact .inl h
  · exact .inr ⟨g, nb, cap, bs, h1, by omega, h3, h4⟩
theorem ChR.below {w w' : World} {first : Int} {sd : Option Addr} {ld cd : Nat} {sp : Option Addr} {P : List (Int × Int)} (h : ChR w first sd ld cd sp P) (hb : Below w.heap.size w w') : ChR w' first sd ld cd sp P :=
  ⟨(h.data.below hb).more hb.size, h.row.below hb, h.le, h.small⟩

theorem chunk_one (first v : Int) (so : Option Addr) (c : Nat) (L : List Ab) (e : Bool) (w : World) (h1 : -32768 ≤ v) (h2 : v < 32768) (hl : L.length ≤ 1024) (hs : ∀ p ∈ L, Small p) (hf1 : -9223372036854775808 ≤ first) (hf2 : first ≤ 9223372036854775807) (hst : Steps w so L) :
    Calls Ybad.prog 5 #[.int .i64 first, .int .i16 v, .slice so L.length c, .bool e] w fun en w' => ∃ sd ld cd sp P, en = .returned (.tuple #[.slice sd ld cd, .slice sp P.length P.length]) ∧ ChR w' first sd ld cd sp P ∧ Below w.heap.size w w' := by
  cases e with
  | true =>
    refine (chunk_empty first v so L.length c w).mono ?_
    rintro en w' ⟨rfl, rfl⟩
    exact ⟨none, 0, 0, none, [], rfl, ⟨⟨⟨none, 0, 0, rfl⟩, .inl rfl⟩, .inl ⟨rfl, rfl⟩, by simp, fun q hq => by cases hq⟩, Below.refl _ _⟩
  | false =>
    refine (chunk_any first v so c L w h1 h2 hl hs hst).mono ?_
    rintro en w' ⟨g, cap, R, rfl, hrow, hg, hR, hpt, hb⟩
    refine ⟨some ⟨g, 0, none⟩, _, cap, some ⟨R, 0, none⟩, chunkPts first v L, by rw [chunkPts_length], ⟨⟨⟨_, _, _, rfl⟩, .inr ⟨g, _, cap, _, rfl, hrow.lt, hrow, Nat.le_trans (chunk_len v L hl) (by omega), chunk_plan first v L h1 h2 hl hs hf1 hf2⟩⟩, .inr ⟨R, rfl, ?_, hpt⟩, by rw [chunkPts_length]; omega, chunkPts_small first v L h1 h2 hl hs⟩, hb⟩
    have := hpt 0 (.int .i64 first) rfl
    exact World.block_lt_of_cell? w' ⟨R, 0, none⟩ this
end Go.Proofs.YbulkxgcDoor.Dc
