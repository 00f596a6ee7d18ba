/-
  No cell of these rows narrows 'for every input' (looked for: loops, veiled, ifaces, maps, wideKeys, modest, calm, conditions, laid).
  DERIVED. THE GIVEN ROWS OF THIS SEAT. 2 by the template 'for every input the law returns true; each argument reads behind the call as it read before'; 0 by the template 'total and deterministic' (their statements: YbulkxemTotals.lean).
  GIVEN WITH THE SEED: the statements are not yours to turn. If you find one false, say at which input.
  Laid BY PROGRAM, IN A SANDBOX (cutbox-rows.mjs): the forced cells as the released guide's own fill.sh prints them over the translation 47dbbbca848179c6… (all of the seat's roots in one cut). By AI agents, Wed Nov 11 2026. No macro, syntax, notation, axiom, sorry.
-/
import Derived.Test.YbulkxemChecked
import GoSem.Claim
import GoSem.ClaimJoined
import GoSem.ClaimMapViews
import Derived.JoinedTies
import Derived.KernelRfl
namespace Go.Proofs.Ybulkxem
/- THE CELL 'sum', in the pinned program and in every row, IS THE sha256 OF THE DUMP (.gsa) THAT YbulkxemProg.lean LOADS. Nothing in Lean hashes anything: it is a label: what it is worth is what the hold of that sum in a sandbox is worth. -/
noncomputable def Yba.pinned : Pinned := { name := "ybulkxem", sum := "47dbbbca848179c68038664774c57aa9693642ca82efeb5afe75873bc08c9b90", checked := Yba.checked }
namespace Rows
def none {H : Type} : Left H := { results := [], args := [] }

/-- 'precedent.LawS1169CScript': WHATEVER THE INPUT: true; the input reads as it did. -/
def lawS1169CScriptSpec : ChangeSpec := { name := "lawS1169CScript", fn := fun _ => fun
  | [d] => { results := [.lit (.bool true)], args := [d] }
  | _ => none }
def lawS1169CScriptRow : OpenClaim := { program := "ybulkxem", sum := "47dbbbca848179c68038664774c57aa9693642ca82efeb5afe75873bc08c9b90", func := "example.com/precedent/precedent.LawS1169CScript", spec := "lawS1169CScript", apart := false }
def LawS1169CScriptSaid : Prop := lawS1169CScriptRow.holds Yba.pinned (OpenSpec.ofChange lawS1169CScriptSpec)

/-- ITS FALSE NEIGHBOUR: 'it returns false'. Refute it at one input. -/
def lawS1169CScriptWrong : ChangeSpec := { name := "lawS1169CScript", fn := fun _ => fun
  | [d] => { results := [.lit (.bool false)], args := [d] }
  | _ => none }
def LawS1169CScriptWrongFalsely : Prop := lawS1169CScriptRow.holds Yba.pinned (OpenSpec.ofChange lawS1169CScriptWrong)

/-- 'precedent.LawS1169CLowWord': WHATEVER THE INPUT: true; the input reads as it did. -/
def lawS1169CLowWordSpec : ChangeSpec := { name := "lawS1169CLowWord", fn := fun _ => fun
  | [d] => { results := [.lit (.bool true)], args := [d] }
  | _ => none }
def lawS1169CLowWordRow : OpenClaim := { program := "ybulkxem", sum := "47dbbbca848179c68038664774c57aa9693642ca82efeb5afe75873bc08c9b90", func := "example.com/precedent/precedent.LawS1169CLowWord", spec := "lawS1169CLowWord", apart := false }
def LawS1169CLowWordSaid : Prop := lawS1169CLowWordRow.holds Yba.pinned (OpenSpec.ofChange lawS1169CLowWordSpec)

/-- ITS FALSE NEIGHBOUR: 'it returns false'. Refute it at one input. -/
def lawS1169CLowWordWrong : ChangeSpec := { name := "lawS1169CLowWord", fn := fun _ => fun
  | [d] => { results := [.lit (.bool false)], args := [d] }
  | _ => none }
def LawS1169CLowWordWrongFalsely : Prop := lawS1169CLowWordRow.holds Yba.pinned (OpenSpec.ofChange lawS1169CLowWordWrong)

end Rows
end Go.Proofs.Ybulkxem
