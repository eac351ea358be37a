/-
  No cell of these rows narrows 'for every input' (looked for: loops, veiled, ifaces, maps, wideKeys, modest, calm, conditions, laid).
  DERIVED. THE GIVEN ROWS OF THIS SEAT. 4 by the template 'for every input the law returns true; each argument reads behind the call as it read before'; 0 by the template 'total and deterministic' (their statements: YbulkdclqTotals.lean).
  GIVEN WITH THE SEED: the statements are not yours to turn. If you find one false, say at which input.
  Laid BY PROGRAM, IN A SANDBOX (cutbox-rows.mjs): the forced cells as the released guide's own fill.sh prints them over the translation 87884b99be26b364… (all of the seat's roots in one cut). By AI agents, Wed Nov 11 2026. No macro, syntax, notation, axiom, sorry.
-/
import Derived.Test.YbulkdclqChecked
import GoSem.Claim
import GoSem.ClaimJoined
import GoSem.ClaimMapViews
import Derived.JoinedTies
import Derived.KernelRfl
namespace Go.Proofs.Ybulkdclq
/- THE CELL 'sum', in the pinned program and in every row, IS THE sha256 OF THE DUMP (.gsa) THAT YbulkdclqProg.lean LOADS. Nothing in Lean hashes anything: it is a label: what it is worth is what the hold of that sum in a sandbox is worth. -/
noncomputable def Yba.pinned : Pinned := { name := "ybulkdclq", sum := "87884b99be26b3645742512265428376522edeb03e27ff1b3453b356ff48a1e8", checked := Yba.checked }
namespace Rows
def none {H : Type} : Left H := { results := [], args := [] }

/-- 'exchange.LawS5190BFirstIsHead': WHATEVER THE INPUT: true; the input reads as it did. -/
def lawS5190BFirstIsHeadSpec : ChangeSpec := { name := "lawS5190BFirstIsHead", fn := fun _ => fun
  | [d1, d2] => { results := [.lit (.bool true)], args := [d1, d2] }
  | _ => none }
def lawS5190BFirstIsHeadRow : OpenClaim := { program := "ybulkdclq", sum := "87884b99be26b3645742512265428376522edeb03e27ff1b3453b356ff48a1e8", func := "example.com/natlatch/natlatch/internal/exchange.LawS5190BFirstIsHead", spec := "lawS5190BFirstIsHead", plainKeys := false, apart := false }
def LawS5190BFirstIsHeadSaid : Prop := lawS5190BFirstIsHeadRow.holds Yba.pinned (OpenSpec.ofChange lawS5190BFirstIsHeadSpec)

/-- ITS FALSE NEIGHBOUR: 'it returns false'. Refute it at one input. -/
def lawS5190BFirstIsHeadWrong : ChangeSpec := { name := "lawS5190BFirstIsHead", fn := fun _ => fun
  | [d1, d2] => { results := [.lit (.bool false)], args := [d1, d2] }
  | _ => none }
def LawS5190BFirstIsHeadWrongFalsely : Prop := lawS5190BFirstIsHeadRow.holds Yba.pinned (OpenSpec.ofChange lawS5190BFirstIsHeadWrong)

/-- 'exchange.LawS5190BFirstIsEarliest': WHATEVER THE INPUT: true; the input reads as it did. -/
def lawS5190BFirstIsEarliestSpec : ChangeSpec := { name := "lawS5190BFirstIsEarliest", fn := fun _ => fun
  | [d] => { results := [.lit (.bool true)], args := [d] }
  | _ => none }
def lawS5190BFirstIsEarliestRow : OpenClaim := { program := "ybulkdclq", sum := "87884b99be26b3645742512265428376522edeb03e27ff1b3453b356ff48a1e8", func := "example.com/natlatch/natlatch/internal/exchange.LawS5190BFirstIsEarliest", spec := "lawS5190BFirstIsEarliest", unfollowed := true, recurses := true, plainKeys := false, apart := false }
def LawS5190BFirstIsEarliestSaid : Prop := lawS5190BFirstIsEarliestRow.holds Yba.pinned (OpenSpec.ofChange lawS5190BFirstIsEarliestSpec)

/-- ITS FALSE NEIGHBOUR: 'it returns false'. Refute it at one input. -/
def lawS5190BFirstIsEarliestWrong : ChangeSpec := { name := "lawS5190BFirstIsEarliest", fn := fun _ => fun
  | [d] => { results := [.lit (.bool false)], args := [d] }
  | _ => none }
def LawS5190BFirstIsEarliestWrongFalsely : Prop := lawS5190BFirstIsEarliestRow.holds Yba.pinned (OpenSpec.ofChange lawS5190BFirstIsEarliestWrong)

/-- 'exchange.LawS5190CExact': WHATEVER THE INPUT: true; the input reads as it did. -/
def lawS5190CExactSpec : ChangeSpec := { name := "lawS5190CExact", fn := fun _ => fun
  | [d1, d2] => { results := [.lit (.bool true)], args := [d1, d2] }
  | _ => none }
def lawS5190CExactRow : OpenClaim := { program := "ybulkdclq", sum := "87884b99be26b3645742512265428376522edeb03e27ff1b3453b356ff48a1e8", func := "example.com/natlatch/natlatch/internal/exchange.LawS5190CExact", spec := "lawS5190CExact", plainKeys := false, apart := false }
def LawS5190CExactSaid : Prop := lawS5190CExactRow.holds Yba.pinned (OpenSpec.ofChange lawS5190CExactSpec)

/-- ITS FALSE NEIGHBOUR: 'it returns false'. Refute it at one input. -/
def lawS5190CExactWrong : ChangeSpec := { name := "lawS5190CExact", fn := fun _ => fun
  | [d1, d2] => { results := [.lit (.bool false)], args := [d1, d2] }
  | _ => none }
def LawS5190CExactWrongFalsely : Prop := lawS5190CExactRow.holds Yba.pinned (OpenSpec.ofChange lawS5190CExactWrong)

/-- 'exchange.LawS5190COnePhase': WHATEVER THE INPUT: true; the input reads as it did. -/
def lawS5190COnePhaseSpec : ChangeSpec := { name := "lawS5190COnePhase", fn := fun _ => fun
  | [d] => { results := [.lit (.bool true)], args := [d] }
  | _ => none }
def lawS5190COnePhaseRow : OpenClaim := { program := "ybulkdclq", sum := "87884b99be26b3645742512265428376522edeb03e27ff1b3453b356ff48a1e8", func := "example.com/natlatch/natlatch/internal/exchange.LawS5190COnePhase", spec := "lawS5190COnePhase", plainKeys := false, apart := false }
def LawS5190COnePhaseSaid : Prop := lawS5190COnePhaseRow.holds Yba.pinned (OpenSpec.ofChange lawS5190COnePhaseSpec)

/-- ITS FALSE NEIGHBOUR: 'it returns false'. Refute it at one input. -/
def lawS5190COnePhaseWrong : ChangeSpec := { name := "lawS5190COnePhase", fn := fun _ => fun
  | [d] => { results := [.lit (.bool false)], args := [d] }
  | _ => none }
def LawS5190COnePhaseWrongFalsely : Prop := lawS5190COnePhaseRow.holds Yba.pinned (OpenSpec.ofChange lawS5190COnePhaseWrong)

end Rows
end Go.Proofs.Ybulkdclq
