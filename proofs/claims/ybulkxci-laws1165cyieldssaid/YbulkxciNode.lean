import Derived.Test.YbulkxciRows
import Derived.WalkKit
import Derived.WalkSpells
import Derived.WalkLawsBesides
import Derived.Deep.QuietTactic
import Derived.BigQuiet
namespace Go.Proofs.Ybulkxci.Yields
open Go.RowKit

/-- the node of a raw byte -/
def nodeOf (r m : Int) : Int := (r % 256) % (m + 2) - 2

theorem nodeOf_lo (r m : Int) (hm : 0 ≤ m) : -2 ≤ nodeOf r m := by
  unfold nodeOf
  have := Int.emod_nonneg (r % 256) (show m + 2 ≠ 0 by omega)
  omega
theorem nodeOf_hi (r m : Int) (hm : 0 ≤ m) : nodeOf r m < m := by
  unfold nodeOf
  have := Int.emod_lt_of_pos (r % 256) (show 0 < m + 2 by omega)
  omega

theorem ret_int {k : IntKind} {a b : Int} (h : a = b) : Ending.returned (.int k a) = .returned (.int k b) := by rw [h]

set_option maxHeartbeats 400000 in
theorem node_any (r m : Int) (w : World) (hm : 0 ≤ m) (hm' : m ≤ 1024) :
    Calls Yba.prog 12 #[.int .i8 r, .int .i64 m] w fun e w' => e = .returned (.int .i64 (nodeOf r m)) ∧ w' = w := by
  have h1 := Int.emod_nonneg (r % 256) (show m + 2 ≠ 0 by omega)
  have h2 := Int.emod_lt_of_pos (r % 256) (show 0 < m + 2 by omega)
  go_enter Yba.func12, Yba.ntmps12
  go_wp2
  go_ret
  exact ⟨rfl, rfl⟩

/-- does a provider on this node lie in the set? -/
def lies (ins : List Bool) (node : Int) : Bool := node == -1 || (decide (0 ≤ node) && ins.getD node.toNat false)

theorem lies_none (ins : List Bool) : lies ins (-1) = true := by simp [lies]
theorem lies_low (ins : List Bool) (node : Int) (h : node < -1) : lies ins node = false := by
  simp [lies]; omega
theorem lies_at (ins : List Bool) (j : Nat) : lies ins (j : Int) = ins.getD j false := by
  simp [lies]

set_option maxHeartbeats 400000 in
theorem liesIn_none (v : Value) (w : World) :
    Calls Yba.prog 25 #[v, .int .i64 (-1)] w fun e w' => e = .returned (.bool true) ∧ w' = w := by
  go_enter Yba.func25, Yba.ntmps25
  go_wp2
  go_ret
  exact ⟨rfl, rfl⟩
set_option maxHeartbeats 400000 in
theorem liesIn_low (v : Value) (node : Int) (w : World) (h : node < -1) :
    Calls Yba.prog 25 #[v, .int .i64 node] w fun e w' => e = .returned (.bool false) ∧ w' = w := by
  have hd : (node == -1) = false := by simp; omega
  go_enter Yba.func25, Yba.ntmps25
  go_wp2
  go_ret
  exact ⟨rfl, rfl⟩
set_option maxHeartbeats 400000 in
theorem liesIn_at (g m c j : Nat) (b : Bool) (w : World) (h : j < m) (hc : w.cell? ⟨g, j, none⟩ = some (.bool b)) :
    Calls Yba.prog 25 #[.slice (some ⟨g, 0, none⟩) m c, .int .i64 j] w fun e w' => e = .returned (.bool b) ∧ w' = w := by
  go_enter Yba.func25, Yba.ntmps25
  go_wp2
  go_ret
  exact ⟨rfl, rfl⟩

theorem liesIn_any (g m c : Nat) (ins : List Bool) (node : Int) (w : World) (h1 : node < m)
    (hc : ∀ j, j < m → w.cell? ⟨g, j, none⟩ = some (.bool (ins.getD j false))) :
    Calls Yba.prog 25 #[.slice (some ⟨g, 0, none⟩) m c, .int .i64 node] w fun e w' => e = .returned (.bool (lies ins node)) ∧ w' = w := by
  by_cases h : 0 ≤ node
  · obtain ⟨j, rfl⟩ := Int.eq_ofNat_of_zero_le h
    rw [lies_at]
    exact liesIn_at g m c j _ w (by omega) (hc j (by omega))
  · by_cases e : node = -1
    · subst e
      rw [lies_none]
      exact liesIn_none _ w
    · rw [lies_low ins node (by omega)]
      exact liesIn_low _ node w (by omega)
end Go.Proofs.Ybulkxci.Yields
