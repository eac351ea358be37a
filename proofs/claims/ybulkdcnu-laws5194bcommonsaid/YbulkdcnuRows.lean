/-
  No cell of these rows narrows 'for every input' (looked for: loops, veiled, ifaces, maps, wideKeys, modest, calm, conditions, laid).
  DERIVED. THE GIVEN ROWS OF THIS SEAT. 3 by the template 'for every input the law returns true; each argument reads behind the call as it read before'; 0 by the template 'total and deterministic' (their statements: YbulkdcnuTotals.lean).
  GIVEN WITH THE SEED: the statements are not yours to turn. If you find one false, say at which input.
  Laid BY PROGRAM, IN A SANDBOX (cutbox-rows.mjs): the forced cells as the released guide's own fill.sh prints them over the translation 9ef88995dfd5dd9e… (all of the seat's roots in one cut). By AI agents, Wed Nov 11 2026. No macro, syntax, notation, axiom, sorry.
-/
import Derived.Test.YbulkdcnuChecked
import GoSem.Claim
import GoSem.ClaimJoined
import GoSem.ClaimMapViews
import Derived.JoinedTies
import Derived.KernelRfl
namespace Go.Proofs.Ybulkdcnu
/- THE CELL 'sum', in the pinned program and in every row, IS THE sha256 OF THE DUMP (.gsa) THAT YbulkdcnuProg.lean LOADS. Nothing in Lean hashes anything: it is a label: what it is worth is what the hold of that sum in a sandbox is worth. -/
noncomputable def Yba.pinned : Pinned := { name := "ybulkdcnu", sum := "9ef88995dfd5dd9ea9e5d43b9fbb6a06389385b1c0a6b5102034a4eb38a248bd", checked := Yba.checked }
namespace Rows
def none {H : Type} : Left H := { results := [], args := [] }

/-- 'interlace.LawS5194AFollowers': WHATEVER THE INPUT: true; the input reads as it did. -/
def lawS5194AFollowersSpec : ChangeSpec := { name := "lawS5194AFollowers", fn := fun _ => fun
  | [d1, d2, d3] => { results := [.lit (.bool true)], args := [d1, d2, d3] }
  | _ => none }
def lawS5194AFollowersRow : OpenClaim := { program := "ybulkdcnu", sum := "9ef88995dfd5dd9ea9e5d43b9fbb6a06389385b1c0a6b5102034a4eb38a248bd", func := "example.com/interlace/interlace.LawS5194AFollowers", spec := "lawS5194AFollowers", unfollowed := true, recurses := true, apart := false }
def LawS5194AFollowersSaid : Prop := lawS5194AFollowersRow.holds Yba.pinned (OpenSpec.ofChange lawS5194AFollowersSpec)

/-- ITS FALSE NEIGHBOUR: 'it returns false'. Refute it at one input. -/
def lawS5194AFollowersWrong : ChangeSpec := { name := "lawS5194AFollowers", fn := fun _ => fun
  | [d1, d2, d3] => { results := [.lit (.bool false)], args := [d1, d2, d3] }
  | _ => none }
def LawS5194AFollowersWrongFalsely : Prop := lawS5194AFollowersRow.holds Yba.pinned (OpenSpec.ofChange lawS5194AFollowersWrong)

/-- 'interlace.LawS5194BModel': WHATEVER THE INPUT: true; the input reads as it did. -/
def lawS5194BModelSpec : ChangeSpec := { name := "lawS5194BModel", fn := fun _ => fun
  | [d1, d2] => { results := [.lit (.bool true)], args := [d1, d2] }
  | _ => none }
def lawS5194BModelRow : OpenClaim := { program := "ybulkdcnu", sum := "9ef88995dfd5dd9ea9e5d43b9fbb6a06389385b1c0a6b5102034a4eb38a248bd", func := "example.com/interlace/interlace.LawS5194BModel", spec := "lawS5194BModel", apart := false }
def LawS5194BModelSaid : Prop := lawS5194BModelRow.holds Yba.pinned (OpenSpec.ofChange lawS5194BModelSpec)

/-- ITS FALSE NEIGHBOUR: 'it returns false'. Refute it at one input. -/
def lawS5194BModelWrong : ChangeSpec := { name := "lawS5194BModel", fn := fun _ => fun
  | [d1, d2] => { results := [.lit (.bool false)], args := [d1, d2] }
  | _ => none }
def LawS5194BModelWrongFalsely : Prop := lawS5194BModelRow.holds Yba.pinned (OpenSpec.ofChange lawS5194BModelWrong)

/-- 'interlace.LawS5194BCommon': WHATEVER THE INPUT: true; the input reads as it did. -/
def lawS5194BCommonSpec : ChangeSpec := { name := "lawS5194BCommon", fn := fun _ => fun
  | [d1, d2] => { results := [.lit (.bool true)], args := [d1, d2] }
  | _ => none }
def lawS5194BCommonRow : OpenClaim := { program := "ybulkdcnu", sum := "9ef88995dfd5dd9ea9e5d43b9fbb6a06389385b1c0a6b5102034a4eb38a248bd", func := "example.com/interlace/interlace.LawS5194BCommon", spec := "lawS5194BCommon", apart := false }
def LawS5194BCommonSaid : Prop := lawS5194BCommonRow.holds Yba.pinned (OpenSpec.ofChange lawS5194BCommonSpec)

/-- ITS FALSE NEIGHBOUR: 'it returns false'. Refute it at one input. -/
def lawS5194BCommonWrong : ChangeSpec := { name := "lawS5194BCommon", fn := fun _ => fun
  | [d1, d2] => { results := [.lit (.bool false)], args := [d1, d2] }
  | _ => none }
def LawS5194BCommonWrongFalsely : Prop := lawS5194BCommonRow.holds Yba.pinned (OpenSpec.ofChange lawS5194BCommonWrong)

end Rows
end Go.Proofs.Ybulkdcnu
