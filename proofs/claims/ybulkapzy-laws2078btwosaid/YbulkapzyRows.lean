/-
  No cell of these rows narrows 'for every input' (looked for: loops, veiled, ifaces, maps, wideKeys, modest, calm, conditions, laid).
  DERIVED. THE GIVEN ROWS OF THIS SEAT. 4 by the template 'for every input the law returns true; each argument reads behind the call as it read before'; 0 by the template 'total and deterministic' (their statements: YbulkapzyTotals.lean).
  GIVEN WITH THE SEED: the statements are not yours to turn. If you find one false, say at which input.
  Laid BY PROGRAM, IN A SANDBOX (cutbox-rows.mjs): the forced cells as the released guide's own fill.sh prints them over the translation 5369ee8f34724204… (all of the seat's roots in one cut). By AI agents, Wed Nov 11 2026. No macro, syntax, notation, axiom, sorry.
-/
import Derived.Test.YbulkapzyChecked
import GoSem.Claim
import GoSem.ClaimJoined
import GoSem.ClaimMapViews
import Derived.JoinedTies
import Derived.KernelRfl
namespace Go.Proofs.Ybulkapzy
/- THE CELL 'sum', in the pinned program and in every row, IS THE sha256 OF THE DUMP (.gsa) THAT YbulkapzyProg.lean LOADS. Nothing in Lean hashes anything: it is a label: what it is worth is what the hold of that sum in a sandbox is worth. -/
noncomputable def Yba.pinned : Pinned := { name := "ybulkapzy", sum := "5369ee8f347242049bf7ea47ce015dbd9d5997cbaff1242eb5c69d3691736723", checked := Yba.checked }
namespace Rows
def none {H : Type} : Left H := { results := [], args := [] }

/-- 'rescind.LawS2078AExact': WHATEVER THE INPUT: true; the input reads as it did. -/
def lawS2078AExactSpec : ChangeSpec := { name := "lawS2078AExact", fn := fun _ => fun
  | [d1, d2, d3, d4] => { results := [.lit (.bool true)], args := [d1, d2, d3, d4] }
  | _ => none }
def lawS2078AExactRow : OpenClaim := { program := "ybulkapzy", sum := "5369ee8f347242049bf7ea47ce015dbd9d5997cbaff1242eb5c69d3691736723", func := "example.com/rescind/rescind.LawS2078AExact", spec := "lawS2078AExact", inPlace := ["math/bits.Sub64"], plainKeys := false, apart := false }
def LawS2078AExactSaid : Prop := lawS2078AExactRow.holds Yba.pinned (OpenSpec.ofChange lawS2078AExactSpec)

/-- ITS FALSE NEIGHBOUR: 'it returns false'. Refute it at one input. -/
def lawS2078AExactWrong : ChangeSpec := { name := "lawS2078AExact", fn := fun _ => fun
  | [d1, d2, d3, d4] => { results := [.lit (.bool false)], args := [d1, d2, d3, d4] }
  | _ => none }
def LawS2078AExactWrongFalsely : Prop := lawS2078AExactRow.holds Yba.pinned (OpenSpec.ofChange lawS2078AExactWrong)

/-- 'rescind.LawS2078ARoundTrip': WHATEVER THE INPUT: true; the input reads as it did. -/
def lawS2078ARoundTripSpec : ChangeSpec := { name := "lawS2078ARoundTrip", fn := fun _ => fun
  | [d1, d2, d3, d4] => { results := [.lit (.bool true)], args := [d1, d2, d3, d4] }
  | _ => none }
def lawS2078ARoundTripRow : OpenClaim := { program := "ybulkapzy", sum := "5369ee8f347242049bf7ea47ce015dbd9d5997cbaff1242eb5c69d3691736723", func := "example.com/rescind/rescind.LawS2078ARoundTrip", spec := "lawS2078ARoundTrip", inPlace := ["math/bits.Add64", "math/bits.Sub64"], plainKeys := false, apart := false }
def LawS2078ARoundTripSaid : Prop := lawS2078ARoundTripRow.holds Yba.pinned (OpenSpec.ofChange lawS2078ARoundTripSpec)

/-- ITS FALSE NEIGHBOUR: 'it returns false'. Refute it at one input. -/
def lawS2078ARoundTripWrong : ChangeSpec := { name := "lawS2078ARoundTrip", fn := fun _ => fun
  | [d1, d2, d3, d4] => { results := [.lit (.bool false)], args := [d1, d2, d3, d4] }
  | _ => none }
def LawS2078ARoundTripWrongFalsely : Prop := lawS2078ARoundTripRow.holds Yba.pinned (OpenSpec.ofChange lawS2078ARoundTripWrong)

/-- 'rescind.LawS2078BAccept': WHATEVER THE INPUT: true; the input reads as it did. -/
def lawS2078BAcceptSpec : ChangeSpec := { name := "lawS2078BAccept", fn := fun _ => fun
  | [d] => { results := [.lit (.bool true)], args := [d] }
  | _ => none }
def lawS2078BAcceptRow : OpenClaim := { program := "ybulkapzy", sum := "5369ee8f347242049bf7ea47ce015dbd9d5997cbaff1242eb5c69d3691736723", func := "example.com/rescind/rescind.LawS2078BAccept", spec := "lawS2078BAccept", inPlace := ["slices.overlaps[*example.com/rescind/rescind.holding]"], unfollowed := true, recurses := true, plainKeys := false, apart := false }
def LawS2078BAcceptSaid : Prop := lawS2078BAcceptRow.holds Yba.pinned (OpenSpec.ofChange lawS2078BAcceptSpec)

/-- ITS FALSE NEIGHBOUR: 'it returns false'. Refute it at one input. -/
def lawS2078BAcceptWrong : ChangeSpec := { name := "lawS2078BAccept", fn := fun _ => fun
  | [d] => { results := [.lit (.bool false)], args := [d] }
  | _ => none }
def LawS2078BAcceptWrongFalsely : Prop := lawS2078BAcceptRow.holds Yba.pinned (OpenSpec.ofChange lawS2078BAcceptWrong)

/-- 'rescind.LawS2078BTwo': WHATEVER THE INPUT: true; the input reads as it did. -/
def lawS2078BTwoSpec : ChangeSpec := { name := "lawS2078BTwo", fn := fun _ => fun
  | [d] => { results := [.lit (.bool true)], args := [d] }
  | _ => none }
def lawS2078BTwoRow : OpenClaim := { program := "ybulkapzy", sum := "5369ee8f347242049bf7ea47ce015dbd9d5997cbaff1242eb5c69d3691736723", func := "example.com/rescind/rescind.LawS2078BTwo", spec := "lawS2078BTwo", inPlace := ["slices.overlaps[*example.com/rescind/rescind.holding]"], unfollowed := true, recurses := true, plainKeys := false, apart := false }
def LawS2078BTwoSaid : Prop := lawS2078BTwoRow.holds Yba.pinned (OpenSpec.ofChange lawS2078BTwoSpec)

/-- ITS FALSE NEIGHBOUR: 'it returns false'. Refute it at one input. -/
def lawS2078BTwoWrong : ChangeSpec := { name := "lawS2078BTwo", fn := fun _ => fun
  | [d] => { results := [.lit (.bool false)], args := [d] }
  | _ => none }
def LawS2078BTwoWrongFalsely : Prop := lawS2078BTwoRow.holds Yba.pinned (OpenSpec.ofChange lawS2078BTwoWrong)

end Rows
end Go.Proofs.Ybulkapzy
