/-
  NARROWER THAN 'FOR EVERY INPUT', by the rows' own cells (each row's printed sentence says how): LawS1172CRun: laid · LawS1172CPlain: laid.
  DERIVED. THE GIVEN ROWS OF THIS SEAT. 2 by the template 'for every input the law returns true; each argument reads behind the call as it read before'; 0 by the template 'total and deterministic' (their statements: YbulkxgcDoorTotals.lean).
  GIVEN WITH THE SEED: the statements are not yours to turn. If you find one false, say at which input.
  Laid BY PROGRAM, IN A SANDBOX (cutbox-rows.mjs): the forced cells as the released guide's own fill.sh prints them over the translation 33a47cd8f44df67b… (all of the seat's roots in one cut). By AI agents, Wed Nov 11 2026. No macro, syntax, notation, axiom, sorry.
-/
import Derived.Test.YbulkxgcDoorChecked
import GoSem.Claim
import GoSem.ClaimJoined
import GoSem.ClaimMapViews
import Derived.JoinedTies
import Derived.KernelRfl
namespace Go.Proofs.YbulkxgcDoor
/- THE CELL 'sum', in the pinned program and in every row, IS THE sha256 OF THE DUMP (.gsa) THAT YbulkxgcDoorProg.lean LOADS. Nothing in Lean hashes anything: it is a label: what it is worth is what the hold of that sum in a sandbox is worth. -/
noncomputable def Ybad.pinned : Pinned := { name := "ybulkxgcdoor", sum := "33a47cd8f44df67b2b295598e2a9a0d1f9a59ebb817f1bbba79739aa9914f488", checked := Ybad.checked }
namespace Rows
def none {H : Type} : Left H := { results := [], args := [] }

/- WHAT THE LISTED PACKAGE-LEVEL VARIABLES READ AS WHEN THE CALL BEGINS. Each datum BY PROGRAM (the guide's laid-datum.mjs) off the statement by which the dump's own 'gosem.cut.vars' lays the variable. In a bare row this is a premise. The card (YbulkxgcDoorCards.lean) ties it to the program's text. -/
def laid_example_com_skeinwatch_skeinwatch_query_pow10 {H : Type} : DataW H := .agg [.lit (.float .f64 4607182418800017408), .lit (.float .f64 4621819117588971520), .lit (.float .f64 4636737291354636288), .lit (.float .f64 4652007308841189376), .lit (.float .f64 4666723172467343360), .lit (.float .f64 4681608360884174848), .lit (.float .f64 4696837146684686336), .lit (.float .f64 4711630319722168320), .lit (.float .f64 4726483295884279808), .lit (.float .f64 4741671816366391296), .lit (.float .f64 4756540486875873280), .lit (.float .f64 4771362005757984768), .lit (.float .f64 4786511204640096256), .lit (.float .f64 4801453603149578240), .lit (.float .f64 4816244402031689728), .lit (.float .f64 4831355200913801216), .lit (.float .f64 4846369599423283200), .lit (.float .f64 4861130398305394688), .lit (.float .f64 4876203697187506176), .lit (.float .f64 4891288408196988160), .lit (.float .f64 4906019910204099648), .lit (.float .f64 4921056587992461136), .lit (.float .f64 4936209963552724370)]
def laid_example_com_skeinwatch_skeinwatch_query_timeWidths {H : Type} : DataW H := .slice [.lit (.int .i64 0), .lit (.int .i64 7), .lit (.int .i64 12), .lit (.int .i64 20), .lit (.int .i64 64)] []
def laid_example_com_skeinwatch_skeinwatch_query_valueWidths {H : Type} : DataW H := .slice [.lit (.int .i64 0), .lit (.int .i64 4), .lit (.int .i64 8), .lit (.int .i64 12), .lit (.int .i64 16), .lit (.int .i64 24), .lit (.int .i64 32), .lit (.int .i64 64), .lit (.int .i64 (-1))] []

/-- 'query.LawS1172CRun': WHATEVER THE INPUT: true; the input reads as it did. -/
def lawS1172CRunSpec : ChangeSpec := { name := "lawS1172CRun", vars := ["example.com/skeinwatch/skeinwatch/query.timeWidths", "example.com/skeinwatch/skeinwatch/query.valueWidths", "example.com/skeinwatch/skeinwatch/query.pow10"], fn := fun _ => fun
  | [d1, d2, d3, d4, d5, d6, d7, d8, d9, g1, g2, g3] => { results := [.lit (.bool true)], args := [d1, d2, d3, d4, d5, d6, d7, d8, d9], vars := [g1, g2, g3] }
  | _ => none }
def lawS1172CRunRow : OpenClaim := { program := "ybulkxgcdoor", sum := "33a47cd8f44df67b2b295598e2a9a0d1f9a59ebb817f1bbba79739aa9914f488", func := "example.com/skeinwatch/skeinwatch/query.LawS1172CRun", spec := "lawS1172CRun", inPlace := ["math.Float64frombits"], named := ["example.com/skeinwatch/skeinwatch/query.timeWidths", "example.com/skeinwatch/skeinwatch/query.valueWidths", "encoding/binary.BigEndian", "example.com/skeinwatch/skeinwatch/query.pow10"], apart := false, laid := [("example.com/skeinwatch/skeinwatch/query.pow10", laid_example_com_skeinwatch_skeinwatch_query_pow10), ("example.com/skeinwatch/skeinwatch/query.timeWidths", laid_example_com_skeinwatch_skeinwatch_query_timeWidths), ("example.com/skeinwatch/skeinwatch/query.valueWidths", laid_example_com_skeinwatch_skeinwatch_query_valueWidths)] }
def LawS1172CRunSaid : Prop := lawS1172CRunRow.holds Ybad.pinned (OpenSpec.ofChange lawS1172CRunSpec)

/-- ITS FALSE NEIGHBOUR: 'it returns false'. Refute it at one input. -/
def lawS1172CRunWrong : ChangeSpec := { name := "lawS1172CRun", vars := ["example.com/skeinwatch/skeinwatch/query.timeWidths", "example.com/skeinwatch/skeinwatch/query.valueWidths", "example.com/skeinwatch/skeinwatch/query.pow10"], fn := fun _ => fun
  | [d1, d2, d3, d4, d5, d6, d7, d8, d9, g1, g2, g3] => { results := [.lit (.bool false)], args := [d1, d2, d3, d4, d5, d6, d7, d8, d9], vars := [g1, g2, g3] }
  | _ => none }
def LawS1172CRunWrongFalsely : Prop := lawS1172CRunRow.holds Ybad.pinned (OpenSpec.ofChange lawS1172CRunWrong)

/-- 'query.LawS1172CPlain': WHATEVER THE INPUT: true; the input reads as it did. -/
def lawS1172CPlainSpec : ChangeSpec := { name := "lawS1172CPlain", vars := ["example.com/skeinwatch/skeinwatch/query.timeWidths", "example.com/skeinwatch/skeinwatch/query.valueWidths", "example.com/skeinwatch/skeinwatch/query.pow10"], fn := fun _ => fun
  | [d, g1, g2, g3] => { results := [.lit (.bool true)], args := [d], vars := [g1, g2, g3] }
  | _ => none }
def lawS1172CPlainRow : OpenClaim := { program := "ybulkxgcdoor", sum := "33a47cd8f44df67b2b295598e2a9a0d1f9a59ebb817f1bbba79739aa9914f488", func := "example.com/skeinwatch/skeinwatch/query.LawS1172CPlain", spec := "lawS1172CPlain", inPlace := ["math.Float64frombits", "math.Float64bits"], named := ["example.com/skeinwatch/skeinwatch/query.timeWidths", "example.com/skeinwatch/skeinwatch/query.valueWidths", "encoding/binary.BigEndian", "example.com/skeinwatch/skeinwatch/query.pow10"], apart := false, laid := [("example.com/skeinwatch/skeinwatch/query.pow10", laid_example_com_skeinwatch_skeinwatch_query_pow10), ("example.com/skeinwatch/skeinwatch/query.timeWidths", laid_example_com_skeinwatch_skeinwatch_query_timeWidths), ("example.com/skeinwatch/skeinwatch/query.valueWidths", laid_example_com_skeinwatch_skeinwatch_query_valueWidths)] }
def LawS1172CPlainSaid : Prop := lawS1172CPlainRow.holds Ybad.pinned (OpenSpec.ofChange lawS1172CPlainSpec)

/-- ITS FALSE NEIGHBOUR: 'it returns false'. Refute it at one input. -/
def lawS1172CPlainWrong : ChangeSpec := { name := "lawS1172CPlain", vars := ["example.com/skeinwatch/skeinwatch/query.timeWidths", "example.com/skeinwatch/skeinwatch/query.valueWidths", "example.com/skeinwatch/skeinwatch/query.pow10"], fn := fun _ => fun
  | [d, g1, g2, g3] => { results := [.lit (.bool false)], args := [d], vars := [g1, g2, g3] }
  | _ => none }
def LawS1172CPlainWrongFalsely : Prop := lawS1172CPlainRow.holds Ybad.pinned (OpenSpec.ofChange lawS1172CPlainWrong)

end Rows
end Go.Proofs.YbulkxgcDoor
