/-
  No cell of these rows narrows 'for every input' (looked for: loops, veiled, ifaces, maps, wideKeys, modest, calm, conditions, laid).
  DERIVED. THE GIVEN ROWS OF THIS SEAT. 5 by the template 'for every input the law returns true; each argument reads behind the call as it read before'; 0 by the template 'total and deterministic' (their statements: YbulkxdkTotals.lean).
  GIVEN WITH THE SEED: the statements are not yours to turn. If you find one false, say at which input.
  Laid BY PROGRAM, IN A SANDBOX (cutbox-rows.mjs): the forced cells as the released guide's own fill.sh prints them over the translation 1d6c7501ad4bce3b… (all of the seat's roots in one cut). By AI agents, Wed Nov 11 2026. No macro, syntax, notation, axiom, sorry.
-/
import Derived.Test.YbulkxdkChecked
import GoSem.Claim
import GoSem.ClaimJoined
import GoSem.ClaimMapViews
import Derived.JoinedTies
import Derived.KernelRfl
namespace Go.Proofs.Ybulkxdk
/- THE CELL 'sum', in the pinned program and in every row, IS THE sha256 OF THE DUMP (.gsa) THAT YbulkxdkProg.lean LOADS. Nothing in Lean hashes anything: it is a label: what it is worth is what the hold of that sum in a sandbox is worth. -/
noncomputable def Yba.pinned : Pinned := { name := "ybulkxdk", sum := "1d6c7501ad4bce3b03bcf5d04bba4124cca5ff16715d62704171408eb0bfa459", checked := Yba.checked }
namespace Rows
def none {H : Type} : Left H := { results := [], args := [] }

/-- 'cmd.LawS1167AFold': WHATEVER THE INPUT: true; the input reads as it did. -/
def lawS1167AFoldSpec : ChangeSpec := { name := "lawS1167AFold", fn := fun _ => fun
  | [d] => { results := [.lit (.bool true)], args := [d] }
  | _ => none }
def lawS1167AFoldRow : OpenClaim := { program := "ybulkxdk", sum := "1d6c7501ad4bce3b03bcf5d04bba4124cca5ff16715d62704171408eb0bfa459", func := "example.com/swarmwright/swarmwright/cmd.LawS1167AFold", spec := "lawS1167AFold", inPlace := ["math.Float64bits"], apart := false }
def LawS1167AFoldSaid : Prop := lawS1167AFoldRow.holds Yba.pinned (OpenSpec.ofChange lawS1167AFoldSpec)

/-- ITS FALSE NEIGHBOUR: 'it returns false'. Refute it at one input. -/
def lawS1167AFoldWrong : ChangeSpec := { name := "lawS1167AFold", fn := fun _ => fun
  | [d] => { results := [.lit (.bool false)], args := [d] }
  | _ => none }
def LawS1167AFoldWrongFalsely : Prop := lawS1167AFoldRow.holds Yba.pinned (OpenSpec.ofChange lawS1167AFoldWrong)

/-- 'cmd.LawS1167AConstant': WHATEVER THE INPUT: true; the input reads as it did. -/
def lawS1167AConstantSpec : ChangeSpec := { name := "lawS1167AConstant", fn := fun _ => fun
  | [d1, d2] => { results := [.lit (.bool true)], args := [d1, d2] }
  | _ => none }
def lawS1167AConstantRow : OpenClaim := { program := "ybulkxdk", sum := "1d6c7501ad4bce3b03bcf5d04bba4124cca5ff16715d62704171408eb0bfa459", func := "example.com/swarmwright/swarmwright/cmd.LawS1167AConstant", spec := "lawS1167AConstant", apart := false }
def LawS1167AConstantSaid : Prop := lawS1167AConstantRow.holds Yba.pinned (OpenSpec.ofChange lawS1167AConstantSpec)

/-- ITS FALSE NEIGHBOUR: 'it returns false'. Refute it at one input. -/
def lawS1167AConstantWrong : ChangeSpec := { name := "lawS1167AConstant", fn := fun _ => fun
  | [d1, d2] => { results := [.lit (.bool false)], args := [d1, d2] }
  | _ => none }
def LawS1167AConstantWrongFalsely : Prop := lawS1167AConstantRow.holds Yba.pinned (OpenSpec.ofChange lawS1167AConstantWrong)

/-- 'swarm.LawS1167BFromWide': WHATEVER THE INPUT: true; the input reads as it did. -/
def lawS1167BFromWideSpec : ChangeSpec := { name := "lawS1167BFromWide", fn := fun _ => fun
  | [d1, d2, d3] => { results := [.lit (.bool true)], args := [d1, d2, d3] }
  | _ => none }
def lawS1167BFromWideRow : OpenClaim := { program := "ybulkxdk", sum := "1d6c7501ad4bce3b03bcf5d04bba4124cca5ff16715d62704171408eb0bfa459", func := "example.com/swarmwright/swarmwright/swarm.LawS1167BFromWide", spec := "lawS1167BFromWide", apart := false }
def LawS1167BFromWideSaid : Prop := lawS1167BFromWideRow.holds Yba.pinned (OpenSpec.ofChange lawS1167BFromWideSpec)

/-- ITS FALSE NEIGHBOUR: 'it returns false'. Refute it at one input. -/
def lawS1167BFromWideWrong : ChangeSpec := { name := "lawS1167BFromWide", fn := fun _ => fun
  | [d1, d2, d3] => { results := [.lit (.bool false)], args := [d1, d2, d3] }
  | _ => none }
def LawS1167BFromWideWrongFalsely : Prop := lawS1167BFromWideRow.holds Yba.pinned (OpenSpec.ofChange lawS1167BFromWideWrong)

/-- 'swarm.LawS1167BFromNarrow': WHATEVER THE INPUT: true; the input reads as it did. -/
def lawS1167BFromNarrowSpec : ChangeSpec := { name := "lawS1167BFromNarrow", fn := fun _ => fun
  | [d1, d2, d3] => { results := [.lit (.bool true)], args := [d1, d2, d3] }
  | _ => none }
def lawS1167BFromNarrowRow : OpenClaim := { program := "ybulkxdk", sum := "1d6c7501ad4bce3b03bcf5d04bba4124cca5ff16715d62704171408eb0bfa459", func := "example.com/swarmwright/swarmwright/swarm.LawS1167BFromNarrow", spec := "lawS1167BFromNarrow", apart := false }
def LawS1167BFromNarrowSaid : Prop := lawS1167BFromNarrowRow.holds Yba.pinned (OpenSpec.ofChange lawS1167BFromNarrowSpec)

/-- ITS FALSE NEIGHBOUR: 'it returns false'. Refute it at one input. -/
def lawS1167BFromNarrowWrong : ChangeSpec := { name := "lawS1167BFromNarrow", fn := fun _ => fun
  | [d1, d2, d3] => { results := [.lit (.bool false)], args := [d1, d2, d3] }
  | _ => none }
def LawS1167BFromNarrowWrongFalsely : Prop := lawS1167BFromNarrowRow.holds Yba.pinned (OpenSpec.ofChange lawS1167BFromNarrowWrong)

/-- 'swarm.LawS1167BRoundTrip': WHATEVER THE INPUT: true; the input reads as it did. -/
def lawS1167BRoundTripSpec : ChangeSpec := { name := "lawS1167BRoundTrip", fn := fun _ => fun
  | [d1, d2] => { results := [.lit (.bool true)], args := [d1, d2] }
  | _ => none }
def lawS1167BRoundTripRow : OpenClaim := { program := "ybulkxdk", sum := "1d6c7501ad4bce3b03bcf5d04bba4124cca5ff16715d62704171408eb0bfa459", func := "example.com/swarmwright/swarmwright/swarm.LawS1167BRoundTrip", spec := "lawS1167BRoundTrip", apart := false }
def LawS1167BRoundTripSaid : Prop := lawS1167BRoundTripRow.holds Yba.pinned (OpenSpec.ofChange lawS1167BRoundTripSpec)

/-- ITS FALSE NEIGHBOUR: 'it returns false'. Refute it at one input. -/
def lawS1167BRoundTripWrong : ChangeSpec := { name := "lawS1167BRoundTrip", fn := fun _ => fun
  | [d1, d2] => { results := [.lit (.bool false)], args := [d1, d2] }
  | _ => none }
def LawS1167BRoundTripWrongFalsely : Prop := lawS1167BRoundTripRow.holds Yba.pinned (OpenSpec.ofChange lawS1167BRoundTripWrong)

end Rows
end Go.Proofs.Ybulkxdk
