import Derived.Test.YbulkxdkWide
import Derived.ProofKit
import Derived.OpenShut
import Derived.ShutString
import Derived.ChangeOld
import Derived.Below
namespace Go.Proofs.Ybulkxdk.Nar
open Go.ChangeShapes Go.WideShapes Go.ChangeAt Go.RowKit

/-- what the walk is told of a slice of integers that came in -/
def IsRow (k : IntKind) (w : World) (a : Option Addr) (len cap : Nat) (zs : List Int) : Prop :=
  (a = none ∧ len = 0 ∧ cap = 0 ∧ zs = []) ∨
  ∃ x, a = some x ∧ len ≤ cap ∧ cap ≤ maxLen ∧ zs.length = cap ∧ (∀ i, i < zs.length → w.cell? (x.add i) = some (.int k (zs.getD i 0))) ∧ ∀ n ∈ zs, (Lit.int k n).wf = true

theorem IsRow.arg {k : IntKind} {w : World} {a : Option Addr} {len cap : Nat} {zs : List Int} (h : IsRow k w a len cap zs) : Arg k w a len zs := by
  intro hpos
  rcases h with ⟨_, h, _⟩ | ⟨x, rfl, hl, hm, hz, hc, hw⟩
  · omega
  · obtain ⟨b, off, spot⟩ := x
    have c0 := hc 0 (by omega)
    have hspot : spot = none := by simpa [Addr.add] using World.cell?_spot c0
    subst hspot
    exact ⟨b, off, rfl, by simpa [Addr.add_lit] using World.block_lt_of_cell? w _ c0, fun j hj => by rw [← Addr.add_lit]; exact hc j (by omega)⟩

theorem IsRow.wf {k : IntKind} {w : World} {a : Option Addr} {len cap : Nat} {zs : List Int} (h : IsRow k w a len cap zs) {j : Nat} (hj : j < len) : (Lit.int k (zs.getD j 0)).wf = true := by
  rcases h with ⟨_, h, _⟩ | ⟨x, rfl, hl, hm, hz, hc, hw⟩
  · omega
  · refine hw _ ?_
    have e : zs.getD j 0 = zs[j]'(by omega) := by simp [List.getD, show j < zs.length by omega]
    rw [e]
    exact List.getElem_mem _
end Go.Proofs.Ybulkxdk.Nar
