/-
  No cell of these rows narrows 'for every input' (looked for: loops, veiled, ifaces, maps, wideKeys, modest, calm, conditions, laid).
  DERIVED. THE GIVEN ROWS OF THIS SEAT. 2 by the template 'for every input the law returns true; each argument reads behind the call as it read before'; 0 by the template 'total and deterministic' (their statements: YbulkaqjcTotals.lean).
  GIVEN WITH THE SEED: the statements are not yours to turn. If you find one false, say at which input.
  Laid BY PROGRAM, IN A SANDBOX (cutbox-rows.mjs): the forced cells as the released guide's own fill.sh prints them over the translation 12e42af4c9e84102… (all of the seat's roots in one cut). By AI agents, Wed Nov 11 2026. No macro, syntax, notation, axiom, sorry.
-/
import Derived.Test.YbulkaqjcChecked
import GoSem.Claim
import GoSem.ClaimJoined
import GoSem.ClaimMapViews
import Derived.JoinedTies
import Derived.KernelRfl
namespace Go.Proofs.Ybulkaqjc
/- THE CELL 'sum', in the pinned program and in every row, IS THE sha256 OF THE DUMP (.gsa) THAT YbulkaqjcProg.lean LOADS. Nothing in Lean hashes anything: it is a label: what it is worth is what the hold of that sum in a sandbox is worth. -/
noncomputable def Yba.pinned : Pinned := { name := "ybulkaqjc", sum := "12e42af4c9e84102283f01c99df4e99a4a8df88c721caac31f7b6a33162ecd00", checked := Yba.checked }
namespace Rows
def none {H : Type} : Left H := { results := [], args := [] }

/-- 'ts.LawS2095AModel': WHATEVER THE INPUT: true; the input reads as it did. -/
def lawS2095AModelSpec : ChangeSpec := { name := "lawS2095AModel", fn := fun _ => fun
  | [d1, d2, d3] => { results := [.lit (.bool true)], args := [d1, d2, d3] }
  | _ => none }
def lawS2095AModelRow : OpenClaim := { program := "ybulkaqjc", sum := "12e42af4c9e84102283f01c99df4e99a4a8df88c721caac31f7b6a33162ecd00", func := "example.com/typeferry/typeferry/ts.LawS2095AModel", spec := "lawS2095AModel", unfollowed := true, recurses := true, apart := false }
def LawS2095AModelSaid : Prop := lawS2095AModelRow.holds Yba.pinned (OpenSpec.ofChange lawS2095AModelSpec)

/-- ITS FALSE NEIGHBOUR: 'it returns false'. Refute it at one input. -/
def lawS2095AModelWrong : ChangeSpec := { name := "lawS2095AModel", fn := fun _ => fun
  | [d1, d2, d3] => { results := [.lit (.bool false)], args := [d1, d2, d3] }
  | _ => none }
def LawS2095AModelWrongFalsely : Prop := lawS2095AModelRow.holds Yba.pinned (OpenSpec.ofChange lawS2095AModelWrong)

/-- 'ts.LawS2095ACalls': WHATEVER THE INPUT: true; the input reads as it did. -/
def lawS2095ACallsSpec : ChangeSpec := { name := "lawS2095ACalls", fn := fun _ => fun
  | [d1, d2, d3] => { results := [.lit (.bool true)], args := [d1, d2, d3] }
  | _ => none }
def lawS2095ACallsRow : OpenClaim := { program := "ybulkaqjc", sum := "12e42af4c9e84102283f01c99df4e99a4a8df88c721caac31f7b6a33162ecd00", func := "example.com/typeferry/typeferry/ts.LawS2095ACalls", spec := "lawS2095ACalls", unfollowed := true, recurses := true, apart := false }
def LawS2095ACallsSaid : Prop := lawS2095ACallsRow.holds Yba.pinned (OpenSpec.ofChange lawS2095ACallsSpec)

/-- ITS FALSE NEIGHBOUR: 'it returns false'. Refute it at one input. -/
def lawS2095ACallsWrong : ChangeSpec := { name := "lawS2095ACalls", fn := fun _ => fun
  | [d1, d2, d3] => { results := [.lit (.bool false)], args := [d1, d2, d3] }
  | _ => none }
def LawS2095ACallsWrongFalsely : Prop := lawS2095ACallsRow.holds Yba.pinned (OpenSpec.ofChange lawS2095ACallsWrong)

end Rows
end Go.Proofs.Ybulkaqjc
