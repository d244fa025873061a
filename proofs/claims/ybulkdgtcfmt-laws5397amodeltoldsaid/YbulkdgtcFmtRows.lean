/-
  NARROWER THAN 'FOR EVERY INPUT', by the rows' own cells (each row's printed sentence says how): LawS5397AModel: laid · LawS5397APick: laid.
  DERIVED. THE GIVEN ROWS OF THIS SEAT. 2 by the template 'for every input the law returns true; each argument reads behind the call as it read before'; 0 by the template 'total and deterministic' (their statements: YbulkdgtcFmtTotals.lean).
  GIVEN WITH THE SEED: the statements are not yours to turn. If you find one false, say at which input.
  Laid BY PROGRAM, IN A SANDBOX (cutbox-rows.mjs): the forced cells as the released guide's own fill.sh prints them over the translation 39bc60370ea96ae9… (all of the seat's roots in one cut). By AI agents, Wed Nov 11 2026. No macro, syntax, notation, axiom, sorry.
-/
import Derived.Test.YbulkdgtcFmtChecked
import GoSem.Claim
import GoSem.ClaimJoined
import GoSem.ClaimMapViews
import Derived.JoinedTies
import Derived.KernelRfl
namespace Go.Proofs.YbulkdgtcFmt
/- THE CELL 'sum', in the pinned program and in every row, IS THE sha256 OF THE DUMP (.gsa) THAT YbulkdgtcFmtProg.lean LOADS. Nothing in Lean hashes anything: it is a label: what it is worth is what the hold of that sum in a sandbox is worth. -/
noncomputable def Ybaf.pinned : Pinned := { name := "ybulkdgtcfmt", sum := "39bc60370ea96ae9658d188589c843a436149d69d9b0018ab36bb19c3e6ff9e5", checked := Ybaf.checked }
namespace Rows
def none {H : Type} : Left H := { results := [], args := [] }

/- WHAT THE LISTED PACKAGE-LEVEL VARIABLES READ AS WHEN THE CALL BEGINS. Each datum BY PROGRAM (the guide's laid-datum.mjs) off the statement by which the dump's own 'gosem.cut.vars' lays the variable. In a bare row this is a premise. The card (YbulkdgtcFmtCards.lean) ties it to the program's text. -/
def laid_example_com_crossline_crossline_lineproto_precisions {H : Type} : DataW H := .slice [.agg [.lit (.string [110, 115]), .lit (.int .i64 1)], .agg [.lit (.string [117]), .lit (.int .i64 1000)], .agg [.lit (.string [117, 115]), .lit (.int .i64 1000)], .agg [.lit (.string [109, 115]), .lit (.int .i64 1000000)], .agg [.lit (.string [115]), .lit (.int .i64 1000000000)], .agg [.lit (.string [109]), .lit (.int .i64 60000000000)], .agg [.lit (.string [104]), .lit (.int .i64 3600000000000)]] []

/-- 'lineproto.LawS5397AModel': WHATEVER THE INPUT: true; the input reads as it did. -/
def lawS5397AModelSpec : ChangeSpec := { name := "lawS5397AModel", vars := ["example.com/crossline/crossline/lineproto.precisions"], fn := fun _ => fun
  | [d, g1] => { results := [.lit (.bool true)], args := [d], vars := [g1] }
  | _ => none }
def lawS5397AModelRow : OpenClaim := { program := "ybulkdgtcfmt", sum := "39bc60370ea96ae9658d188589c843a436149d69d9b0018ab36bb19c3e6ff9e5", func := "example.com/crossline/crossline/lineproto.LawS5397AModel", spec := "lawS5397AModel", stops := ["fmt.errorf"], inPlace := ["internal/abi.NoEscape", "internal/bytealg.MakeNoZero", "fmt.errorf"], named := ["example.com/crossline/crossline/lineproto.precisions"], apart := false, laid := [("example.com/crossline/crossline/lineproto.precisions", laid_example_com_crossline_crossline_lineproto_precisions)] }
/-- NO THEOREM (fmt's text is open here; it may be false): for the released tool's asking of the row's closed facts alone. THE STATEMENT IS 'LawS5397AModelToldSaid' (YbulkdgtcFmtCards.lean). -/
def LawS5397AModelFormAsk : Prop := lawS5397AModelRow.holds Ybaf.pinned (OpenSpec.ofChange lawS5397AModelSpec)

/-- ITS FALSE NEIGHBOUR: 'it returns false'. Refute it at one input. -/
def lawS5397AModelWrong : ChangeSpec := { name := "lawS5397AModel", vars := ["example.com/crossline/crossline/lineproto.precisions"], fn := fun _ => fun
  | [d, g1] => { results := [.lit (.bool false)], args := [d], vars := [g1] }
  | _ => none }
def LawS5397AModelWrongFormAsk : Prop := lawS5397AModelRow.holds Ybaf.pinned (OpenSpec.ofChange lawS5397AModelWrong)

/-- 'lineproto.LawS5397APick': WHATEVER THE INPUT: true; the input reads as it did. -/
def lawS5397APickSpec : ChangeSpec := { name := "lawS5397APick", vars := ["example.com/crossline/crossline/lineproto.precisions"], fn := fun _ => fun
  | [d, g1] => { results := [.lit (.bool true)], args := [d], vars := [g1] }
  | _ => none }
def lawS5397APickRow : OpenClaim := { program := "ybulkdgtcfmt", sum := "39bc60370ea96ae9658d188589c843a436149d69d9b0018ab36bb19c3e6ff9e5", func := "example.com/crossline/crossline/lineproto.LawS5397APick", spec := "lawS5397APick", stops := ["fmt.errorf"], inPlace := ["internal/abi.NoEscape", "internal/bytealg.MakeNoZero", "fmt.errorf"], named := ["example.com/crossline/crossline/lineproto.precisions"], apart := false, laid := [("example.com/crossline/crossline/lineproto.precisions", laid_example_com_crossline_crossline_lineproto_precisions)] }
/-- NO THEOREM (fmt's text is open here; it may be false): for the released tool's asking of the row's closed facts alone. THE STATEMENT IS 'LawS5397APickToldSaid' (YbulkdgtcFmtCards.lean). -/
def LawS5397APickFormAsk : Prop := lawS5397APickRow.holds Ybaf.pinned (OpenSpec.ofChange lawS5397APickSpec)

/-- ITS FALSE NEIGHBOUR: 'it returns false'. Refute it at one input. -/
def lawS5397APickWrong : ChangeSpec := { name := "lawS5397APick", vars := ["example.com/crossline/crossline/lineproto.precisions"], fn := fun _ => fun
  | [d, g1] => { results := [.lit (.bool false)], args := [d], vars := [g1] }
  | _ => none }
def LawS5397APickWrongFormAsk : Prop := lawS5397APickRow.holds Ybaf.pinned (OpenSpec.ofChange lawS5397APickWrong)

end Rows
end Go.Proofs.YbulkdgtcFmt
