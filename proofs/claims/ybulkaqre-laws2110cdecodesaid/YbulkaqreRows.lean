/-
  No cell of these rows narrows 'for every input' (looked for: loops, veiled, ifaces, maps, wideKeys, modest, calm, conditions, laid).
  DERIVED. THE GIVEN ROWS OF THIS SEAT. 1 by the template 'for every input the law returns true; each argument reads behind the call as it read before'; 0 by the template 'total and deterministic' (their statements: YbulkaqreTotals.lean).
  GIVEN WITH THE SEED: the statements are not yours to turn. If you find one false, say at which input.
  Laid BY PROGRAM, IN A SANDBOX (cutbox-rows.mjs): the forced cells as the released guide's own fill.sh prints them over the translation 61703c83fc56e716… (all of the seat's roots in one cut). By AI agents, Wed Nov 11 2026. No macro, syntax, notation, axiom, sorry.
-/
import Derived.Test.YbulkaqreChecked
import GoSem.Claim
import GoSem.ClaimJoined
import GoSem.ClaimMapViews
import Derived.JoinedTies
import Derived.KernelRfl
namespace Go.Proofs.Ybulkaqre
/- THE CELL 'sum', in the pinned program and in every row, IS THE sha256 OF THE DUMP (.gsa) THAT YbulkaqreProg.lean LOADS. Nothing in Lean hashes anything: it is a label: what it is worth is what the hold of that sum in a sandbox is worth. -/
noncomputable def Yba.pinned : Pinned := { name := "ybulkaqre", sum := "61703c83fc56e71604a14eba799ac1a575b6e4e79da982260c34b86a9583afdf", checked := Yba.checked }
namespace Rows
def none {H : Type} : Left H := { results := [], args := [] }

/-- 'paxos.LawS2110CDecode': WHATEVER THE INPUT: true; the input reads as it did. -/
def lawS2110CDecodeSpec : ChangeSpec := { name := "lawS2110CDecode", fn := fun _ => fun
  | [d1, d2, d3, d4, d5] => { results := [.lit (.bool true)], args := [d1, d2, d3, d4, d5] }
  | _ => none }
def lawS2110CDecodeRow : OpenClaim := { program := "ybulkaqre", sum := "61703c83fc56e71604a14eba799ac1a575b6e4e79da982260c34b86a9583afdf", func := "example.com/conclave/conclave/paxos.LawS2110CDecode", spec := "lawS2110CDecode", named := ["encoding/binary.BigEndian"], apart := false }
def LawS2110CDecodeSaid : Prop := lawS2110CDecodeRow.holds Yba.pinned (OpenSpec.ofChange lawS2110CDecodeSpec)

/-- ITS FALSE NEIGHBOUR: 'it returns false'. Refute it at one input. -/
def lawS2110CDecodeWrong : ChangeSpec := { name := "lawS2110CDecode", fn := fun _ => fun
  | [d1, d2, d3, d4, d5] => { results := [.lit (.bool false)], args := [d1, d2, d3, d4, d5] }
  | _ => none }
def LawS2110CDecodeWrongFalsely : Prop := lawS2110CDecodeRow.holds Yba.pinned (OpenSpec.ofChange lawS2110CDecodeWrong)

end Rows
end Go.Proofs.Ybulkaqre
