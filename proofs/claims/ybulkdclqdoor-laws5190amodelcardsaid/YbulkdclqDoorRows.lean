/-
  NARROWER THAN 'FOR EVERY INPUT', by the rows' own cells (each row's printed sentence says how): LawS5190AModel: laid.
  DERIVED. THE GIVEN ROWS OF THIS SEAT. 1 by the template 'for every input the law returns true; each argument reads behind the call as it read before'; 0 by the template 'total and deterministic' (their statements: YbulkdclqDoorTotals.lean).
  GIVEN WITH THE SEED: the statements are not yours to turn. If you find one false, say at which input.
  Laid BY PROGRAM, IN A SANDBOX (cutbox-rows.mjs): the forced cells as the released guide's own fill.sh prints them over the translation 9abef2ebe04ca65b… (all of the seat's roots in one cut). By AI agents, Wed Nov 11 2026. No macro, syntax, notation, axiom, sorry.
-/
import Derived.Test.YbulkdclqDoorChecked
import GoSem.Claim
import GoSem.ClaimJoined
import GoSem.ClaimMapViews
import Derived.JoinedTies
import Derived.KernelRfl
namespace Go.Proofs.YbulkdclqDoor
/- THE CELL 'sum', in the pinned program and in every row, IS THE sha256 OF THE DUMP (.gsa) THAT YbulkdclqDoorProg.lean LOADS. Nothing in Lean hashes anything: it is a label: what it is worth is what the hold of that sum in a sandbox is worth. -/
noncomputable def Ybad.pinned : Pinned := { name := "ybulkdclqdoor", sum := "9abef2ebe04ca65b8f721ab44bd7986406d0063c563a720d54ff6732ef15a02e", checked := Ybad.checked }
namespace Rows
def none {H : Type} : Left H := { results := [], args := [] }

/- WHAT THE LISTED PACKAGE-LEVEL VARIABLES READ AS WHEN THE CALL BEGINS. Each datum BY PROGRAM (the guide's laid-datum.mjs) off the statement by which the dump's own 'gosem.cut.vars' lays the variable. In a bare row this is a premise. The card (YbulkdclqDoorCards.lean) ties it to the program's text. -/
def laid_net_netip_z4 {H : Type} : DataW H := .agg [.ptr (.agg [.lit (.bool false), .lit (.string [])])]
def laid_net_netip_z0 {H : Type} : DataW H := .agg [.nil]

/-- 'exchange.LawS5190AModel': WHATEVER THE INPUT: true; the input reads as it did. -/
def lawS5190AModelSpec : ChangeSpec := { name := "lawS5190AModel", fn := fun _ => fun
  | [d1, d2, d3] => { results := [.lit (.bool true)], args := [d1, d2, d3] }
  | _ => none }
def lawS5190AModelRow : OpenClaim := { program := "ybulkdclqdoor", sum := "9abef2ebe04ca65b8f721ab44bd7986406d0063c563a720d54ff6732ef15a02e", func := "example.com/natlatch/natlatch/internal/exchange.LawS5190AModel", spec := "lawS5190AModel", unfollowed := true, recurses := true, named := ["net/netip.z4", "net/netip.z0"], plainKeys := false, apart := false, laid := [("net/netip.z4", laid_net_netip_z4), ("net/netip.z0", laid_net_netip_z0)] }
def LawS5190AModelSaid : Prop := lawS5190AModelRow.holds Ybad.pinned (OpenSpec.ofChange lawS5190AModelSpec)

/-- ITS FALSE NEIGHBOUR: 'it returns false'. Refute it at one input. -/
def lawS5190AModelWrong : ChangeSpec := { name := "lawS5190AModel", fn := fun _ => fun
  | [d1, d2, d3] => { results := [.lit (.bool false)], args := [d1, d2, d3] }
  | _ => none }
def LawS5190AModelWrongFalsely : Prop := lawS5190AModelRow.holds Ybad.pinned (OpenSpec.ofChange lawS5190AModelWrong)

end Rows
end Go.Proofs.YbulkdclqDoor
