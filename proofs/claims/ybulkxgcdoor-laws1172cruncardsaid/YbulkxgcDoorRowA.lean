import Derived.Test.YbulkxgcDoorGlob
import Derived.Test.YbulkxgcDoorChH
import Derived.ChangeOld
import Derived.Below
import Derived.Deep.Slices
namespace Go.Proofs.YbulkxgcDoor.Row
open Go.ChangeShapes Go.WideShapes Go.ChangeAt Go.RowKit
open _root_.Go.Proofs.YbulkxgcDoor.Dc
open _root_.Go.Proofs.YbulkxgcDoor.Gb

theorem own : ownKnob Ybad.prog.godebug = none := by kernel_rfl
theorem laidOut : laidOutB Ybad.prog = true := by kernel_rfl

/-- what the walk of the law has to say -/
def LawAny : Prop := ∀ (first1 v1 : Int) (a1 : Option Addr) (c1 : Nat) (L1 : List Ab) (e1 : Bool) (first2 v2 : Int) (a2 : Option Addr) (c2 : Nat) (L2 : List Ab) (e2 : Bool) (skip : Int) (g1 o1 g2 o2 : Nat) (w : World),
    -9223372036854775808 ≤ first1 → first1 ≤ 9223372036854775807 → -32768 ≤ v1 → v1 ≤ 32767 → -9223372036854775808 ≤ first2 → first2 ≤ 9223372036854775807 → -32768 ≤ v2 → v2 ≤ 32767 → 0 ≤ skip → skip ≤ 65535 →
    (∀ p ∈ L1, Small p) → (∀ p ∈ L2, Small p) → Dc.Steps w a1 L1 → Dc.Steps w a2 L2 → GlB w w.heap.size g1 o1 g2 o2 →
    Calls Ybad.prog 3 #[.int .i64 first1, .int .i16 v1, .slice a1 L1.length c1, .bool e1, .int .i64 first2, .int .i16 v2, .slice a2 L2.length c2, .bool e2, .int .u16 skip] w fun e w' => e = .returned (.bool true) ∧ Below w.heap.size w w'

theorem vars_below {H : Type} {enc : TypeId × Value → H} {W W' : World} (hb : Below W.heap.size W W') : ∀ {ns : List String} {ds : List (DataW H)} {ps : List MemPlace},
    (∀ n ∈ ns, ∀ g t, Ybad.prog.globalNamed n = some g → (Ybad.prog.globals[g]?).map (·.type) = some t → Ybad.prog.readableRec t = true ∧ t < Ybad.prog.types.size) →
    DataW.TrodVars enc Ybad.prog W (fun _ => true) ns ds ps → DataW.TrodVars enc Ybad.prog W' (fun b => decide (b < W.heap.size)) ns ds ps
  | [], [], _, _, h => h
  | n :: ns, _ :: _, _, hr, h => by
    have hlt := DataW.TrodVars.lt h
    obtain ⟨g, t, cs, f, a, b, h1, h2, h3, h4, hs, e⟩ := h
    subst e
    obtain ⟨r1, r2⟩ := hr n (by simp) g t h1 h2
    have hg : g < W.heap.size := by
      simp only [World.var?, h1, Option.bind_some] at h3
      split at h3
      · rename_i hh; exact lt_of_block hh
      · cases h3
    refine ⟨g, t, cs, f, a, b, h1, h2, ?_, ?_, vars_below hb (fun m hm => hr m (List.mem_cons_of_mem _ hm)) hs, rfl⟩
    · rw [← h3]
      simp only [World.var?, h1, Option.bind_some, hb.block g hg]
    · exact DataW.trod_stays (kids_book laidOut r1) (book_sized r1) (fun h => by cases h) ⟨r2, book_self t⟩ h4 (fun x hx => hb.same (hlt x (by simp [hx]))) (fun x hx => by simpa using hlt x (by simp [hx]))

theorem cells53 : Ybad.prog.cellsOf 53 = 2 := by kernel_rfl
theorem cells51 : Ybad.prog.cellsOf 51 = 1 := by kernel_rfl

/-- a slice of steps, opened -/
theorem steps_of {H : Type} {enc : TypeId × Value → H} {W : World} {a : Option Addr} {len cap : Nat} {d : DataW H} {p : List MemPlace} (h : DataW.Trod enc Ybad.prog W 0 (fun _ => true) true 23 (.slice a len cap) d p) :
    ∃ L : List Ab, L.length = len ∧ (∀ q ∈ L, Small q) ∧ Dc.Steps W a L := by
  obtain ⟨fuel, hf⟩ := h
  rcases Deep.open_slice Ybad.underlying23 hf with ⟨hcs, _⟩ | ⟨x, l, c, m, n, D, Pl, hcs, _, hl, hm, hmm, _, hcell⟩
  · simp [Value.cells] at hcs
    obtain ⟨rfl, rfl, rfl⟩ := hcs
    exact ⟨[], rfl, by simp, fun i h => absurd h (by simp)⟩
  · simp [Value.cells] at hcs
    obtain ⟨rfl, rfl, rfl⟩ := hcs
    simp at hmm
    subst hmm
    have each : ∀ i, i < len → ∃ q : Ab, Small q ∧ W.cell? (x.add (i * 2)) = some (.int .i8 q.1) ∧ W.cell? ((x.add (i * 2)).add 1) = some (.int .i8 q.2) := fun i hi => by
      obtain ⟨cs, hc1, ht1⟩ := hcell i (by omega)
      rw [cells53] at hc1
      obtain ⟨_, hlen, hget⟩ := World.cells?_some hc1
      obtain ⟨y0, y1, n', _, _, t0, t1⟩ := trod_struct2 Ybad.underlying53 ht1
      match cs, hlen, hget, t0, t1 with
      | [u0, u1], _, hget, t0, t1 =>
        simp only [cells51] at t0 t1
        obtain ⟨k0, e0, _, w0⟩ := DataW.trod_int Ybad.underlying51 t0
        obtain ⟨k1, e1, _, w1⟩ := DataW.trod_int Ybad.underlying51 t1
        simp at e0 e1
        subst e0 e1
        have b0 := bounds_i8 w0
        have b1 := bounds_i8 w1
        refine ⟨(k0, k1), ⟨b0.1, by have := b0.2; show k0 < 128; omega, b1.1, by have := b1.2; show k1 < 128; omega⟩, ?_, ?_⟩
        · have := hget 0 (by omega)
          simpa [Addr.add] using this
        · exact hget 1 (by omega)
    obtain ⟨f, hf1⟩ := Deep.choose_lt each
    refine ⟨(List.range len).map f, by simp, fun q hq => ?_, fun i hi => ?_⟩
    · simp at hq
      obtain ⟨i, hi, rfl⟩ := hq
      exact (hf1 i hi).1
    · simp at hi
      obtain ⟨_, c0, c1⟩ := hf1 i hi
      obtain ⟨b, off, spot⟩ := x
      have z0 := (hf1 0 (by omega)).2.1
      have hspot : spot = none := by simpa [Addr.add] using World.cell?_spot z0
      subst hspot
      refine ⟨b, off, rfl, by simpa [Addr.add_lit] using World.block_lt_of_cell? W _ c0, ?_, ?_⟩
      · rw [← Addr.add_lit, c0]; simp
      · rw [Deep.add_add, Addr.add_lit] at c1
        rw [Nat.add_assoc, c1]; simp

set_option maxRecDepth 100000 in
/-- The door's own heap meets the condition. -/
theorem door_met (os : Os) (args : Array Value) : laidMetH Ybad.prog laid3 ((World.doorLaid Ybad.prog 649 os).forCall (fun _ _ => 0) ⟨#[], args, []⟩).memory :=
  laidMetH_of_parts3 (fuel := 8) (laidMet_of_run' 24 (by kernel_rfl) (by kernel_rfl)) (by kernel_rfl) (by kernel_rfl)
end Go.Proofs.YbulkxgcDoor.Row
