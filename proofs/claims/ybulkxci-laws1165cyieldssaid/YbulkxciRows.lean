/-
  No cell of these rows narrows 'for every input' (looked for: loops, veiled, ifaces, maps, wideKeys, modest, calm, conditions, laid).
  DERIVED. THE GIVEN ROWS OF THIS SEAT. 3 by the template 'for every input the law returns true; each argument reads behind the call as it read before'; 0 by the template 'total and deterministic' (their statements: YbulkxciTotals.lean).
  GIVEN WITH THE SEED: the statements are not yours to turn. If you find one false, say at which input.
  Laid BY PROGRAM, IN A SANDBOX (cutbox-rows.mjs): the forced cells as the released guide's own fill.sh prints them over the translation 7e65e1fcf59b7cc0… (all of the seat's roots in one cut). By AI agents, Wed Nov 11 2026. No macro, syntax, notation, axiom, sorry.
-/
import Derived.Test.YbulkxciChecked
import GoSem.Claim
import GoSem.ClaimJoined
import GoSem.ClaimMapViews
import Derived.JoinedTies
import Derived.KernelRfl
namespace Go.Proofs.Ybulkxci
/- THE CELL 'sum', in the pinned program and in every row, IS THE sha256 OF THE DUMP (.gsa) THAT YbulkxciProg.lean LOADS. Nothing in Lean hashes anything: it is a label: what it is worth is what the hold of that sum in a sandbox is worth. -/
noncomputable def Yba.pinned : Pinned := { name := "ybulkxci", sum := "7e65e1fcf59b7cc0ef5de5b0a1e3f29194091e60e8bbce13dec2943cd095d0e0", checked := Yba.checked }
namespace Rows
def none {H : Type} : Left H := { results := [], args := [] }

/-- 'granum.LawS1165BModel': WHATEVER THE INPUT: true; the input reads as it did. -/
def lawS1165BModelSpec : ChangeSpec := { name := "lawS1165BModel", fn := fun _ => fun
  | [d1, d2, d3, d4] => { results := [.lit (.bool true)], args := [d1, d2, d3, d4] }
  | _ => none }
def lawS1165BModelRow : OpenClaim := { program := "ybulkxci", sum := "7e65e1fcf59b7cc0ef5de5b0a1e3f29194091e60e8bbce13dec2943cd095d0e0", func := "example.com/granum/granum.LawS1165BModel", spec := "lawS1165BModel", inPlace := ["internal/bytealg.abigen_runtime_cmpstring", "math/bits.Add64"], unfollowed := true, recurses := true, apart := false }
def LawS1165BModelSaid : Prop := lawS1165BModelRow.holds Yba.pinned (OpenSpec.ofChange lawS1165BModelSpec)

/-- ITS FALSE NEIGHBOUR: 'it returns false'. Refute it at one input. -/
def lawS1165BModelWrong : ChangeSpec := { name := "lawS1165BModel", fn := fun _ => fun
  | [d1, d2, d3, d4] => { results := [.lit (.bool false)], args := [d1, d2, d3, d4] }
  | _ => none }
def LawS1165BModelWrongFalsely : Prop := lawS1165BModelRow.holds Yba.pinned (OpenSpec.ofChange lawS1165BModelWrong)

/-- 'granum.LawS1165BOrder': WHATEVER THE INPUT: true; the input reads as it did. -/
def lawS1165BOrderSpec : ChangeSpec := { name := "lawS1165BOrder", fn := fun _ => fun
  | [d1, d2, d3] => { results := [.lit (.bool true)], args := [d1, d2, d3] }
  | _ => none }
def lawS1165BOrderRow : OpenClaim := { program := "ybulkxci", sum := "7e65e1fcf59b7cc0ef5de5b0a1e3f29194091e60e8bbce13dec2943cd095d0e0", func := "example.com/granum/granum.LawS1165BOrder", spec := "lawS1165BOrder", inPlace := ["internal/bytealg.abigen_runtime_cmpstring", "math/bits.Add64"], unfollowed := true, recurses := true, apart := false }
def LawS1165BOrderSaid : Prop := lawS1165BOrderRow.holds Yba.pinned (OpenSpec.ofChange lawS1165BOrderSpec)

/-- ITS FALSE NEIGHBOUR: 'it returns false'. Refute it at one input. -/
def lawS1165BOrderWrong : ChangeSpec := { name := "lawS1165BOrder", fn := fun _ => fun
  | [d1, d2, d3] => { results := [.lit (.bool false)], args := [d1, d2, d3] }
  | _ => none }
def LawS1165BOrderWrongFalsely : Prop := lawS1165BOrderRow.holds Yba.pinned (OpenSpec.ofChange lawS1165BOrderWrong)

/-- 'granum.LawS1165CYields': WHATEVER THE INPUT: true; the input reads as it did. -/
def lawS1165CYieldsSpec : ChangeSpec := { name := "lawS1165CYields", fn := fun _ => fun
  | [d1, d2, d3, d4, d5, d6] => { results := [.lit (.bool true)], args := [d1, d2, d3, d4, d5, d6] }
  | _ => none }
def lawS1165CYieldsRow : OpenClaim := { program := "ybulkxci", sum := "7e65e1fcf59b7cc0ef5de5b0a1e3f29194091e60e8bbce13dec2943cd095d0e0", func := "example.com/granum/granum.LawS1165CYields", spec := "lawS1165CYields", unfollowed := true, recurses := true, apart := false }
def LawS1165CYieldsSaid : Prop := lawS1165CYieldsRow.holds Yba.pinned (OpenSpec.ofChange lawS1165CYieldsSpec)

/-- ITS FALSE NEIGHBOUR: 'it returns false'. Refute it at one input. -/
def lawS1165CYieldsWrong : ChangeSpec := { name := "lawS1165CYields", fn := fun _ => fun
  | [d1, d2, d3, d4, d5, d6] => { results := [.lit (.bool false)], args := [d1, d2, d3, d4, d5, d6] }
  | _ => none }
def LawS1165CYieldsWrongFalsely : Prop := lawS1165CYieldsRow.holds Yba.pinned (OpenSpec.ofChange lawS1165CYieldsWrong)

end Rows
end Go.Proofs.Ybulkxci
