import Derived.Test.YbulkxgcDoorRows
import Derived.Test.YbulkxgcDoorBits
import Derived.WalkKit
import Derived.WalkSpells
import Derived.WalkLawsBesides
import Derived.Lib.EndianBits
import Derived.Deep.QuietTactic
import Derived.BigQuiet
import Derived.Deep.RegionWith
import Derived.Deep.DeepCutAuto
import Derived.Laws.CopyOwn
namespace Go.Proofs.YbulkxgcDoor.Dc
open Go.RowKit
open _root_.Go.Proofs.YbulkxgcDoor.Bt

set_option maxHeartbeats 4000000 in
set_option maxRecDepth 100000 in
theorem be64 (g o n c b0 b1 b2 b3 b4 b5 b6 b7 : Nat) (w : World) (hg : g < w.heap.size) (hn : 8 ≤ n) (h0 : b0 < 256) (h1 : b1 < 256) (h2 : b2 < 256) (h3 : b3 < 256) (h4 : b4 < 256) (h5 : b5 < 256) (h6 : b6 < 256) (h7 : b7 < 256)
    (c0 : w.cell? ⟨g, o, none⟩ = some (.int .u8 b0)) (c1 : w.cell? ⟨g, o + 1, none⟩ = some (.int .u8 b1)) (c2 : w.cell? ⟨g, o + 2, none⟩ = some (.int .u8 b2)) (c3 : w.cell? ⟨g, o + 3, none⟩ = some (.int .u8 b3)) (c4 : w.cell? ⟨g, o + 4, none⟩ = some (.int .u8 b4)) (c5 : w.cell? ⟨g, o + 5, none⟩ = some (.int .u8 b5)) (c6 : w.cell? ⟨g, o + 6, none⟩ = some (.int .u8 b6)) (c7 : w.cell? ⟨g, o + 7, none⟩ = some (.int .u8 b7)) :
    Calls Ybad.prog 28 #[.agg #[], .slice (some ⟨g, o, none⟩) n c] w fun e w' =>
      e = .returned (.int .u64 ((b7 + b6 * 256 + b5 * 65536 + b4 * 16777216 + b3 * 4294967296 + b2 * 1099511627776 + b1 * 281474976710656 + b0 * 72057594037927936 : Nat) : Int)) ∧ Below w.heap.size w w' := by
  have hv : ((b7 + b6 * 256 + b5 * 65536 + b4 * 16777216 + b3 * 4294967296 + b2 * 1099511627776 + b1 * 281474976710656 + b0 * 72057594037927936 : Nat) : Int) = (b7 : Int) + (b6 : Int) * 256 + (b5 : Int) * 65536 + (b4 : Int) * 16777216 + (b3 : Int) * 4294967296 + (b2 : Int) * 1099511627776 + (b1 : Int) * 281474976710656 + (b0 : Int) * 72057594037927936 := by omega
  rw [hv]
  clear hv
  have q0 : 0 < n := by omega
  have q1 : (1 : Int) < (n : Int) := by omega
  have q2 : (2 : Int) < (n : Int) := by omega
  have q3 : (3 : Int) < (n : Int) := by omega
  have q4 : (4 : Int) < (n : Int) := by omega
  have q5 : (5 : Int) < (n : Int) := by omega
  have q6 : (6 : Int) < (n : Int) := by omega
  have q7 : (7 : Int) < (n : Int) := by omega
  have d0 := (World.cell?_alloc_past (w := w) (.cells #[] 85) _ _ hg).trans c0
  have d1 := (World.cell?_alloc_past (w := w) (.cells #[] 85) _ _ hg).trans c1
  have d2 := (World.cell?_alloc_past (w := w) (.cells #[] 85) _ _ hg).trans c2
  have d3 := (World.cell?_alloc_past (w := w) (.cells #[] 85) _ _ hg).trans c3
  have d4 := (World.cell?_alloc_past (w := w) (.cells #[] 85) _ _ hg).trans c4
  have d5 := (World.cell?_alloc_past (w := w) (.cells #[] 85) _ _ hg).trans c5
  have d6 := (World.cell?_alloc_past (w := w) (.cells #[] 85) _ _ hg).trans c6
  have d7 := (World.cell?_alloc_past (w := w) (.cells #[] 85) _ _ hg).trans c7
  go_enter Ybad.func28, Ybad.ntmps28
  go_wp2
  go_quiet (fail)
  go_wp2
  go_ret
  refine ⟨?_, ((Below.refl _ w).alloc (Nat.le_refl _) _).trans ⟨rfl, rfl, rfl, Nat.le_refl _, fun _ _ => rfl⟩⟩
  simp (disch := omega) only [u64_or8, u64_or16, u64_or24, u64_or32, u64_or40, u64_or48, u64_or56]
  rfl
end Go.Proofs.YbulkxgcDoor.Dc
