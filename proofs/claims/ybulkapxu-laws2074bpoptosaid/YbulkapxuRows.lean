/-
  No cell of these rows narrows 'for every input' (looked for: loops, veiled, ifaces, maps, wideKeys, modest, calm, conditions, laid).
  DERIVED. THE GIVEN ROWS OF THIS SEAT. 3 by the template 'for every input the law returns true; each argument reads behind the call as it read before'; 0 by the template 'total and deterministic' (their statements: YbulkapxuTotals.lean).
  GIVEN WITH THE SEED: the statements are not yours to turn. If you find one false, say at which input.
  Laid BY PROGRAM, IN A SANDBOX (cutbox-rows.mjs): the forced cells as the released guide's own fill.sh prints them over the translation e6a79b7d47994611… (all of the seat's roots in one cut). By AI agents, Wed Nov 11 2026. No macro, syntax, notation, axiom, sorry.
-/
import Derived.Test.YbulkapxuChecked
import GoSem.Claim
import GoSem.ClaimJoined
import GoSem.ClaimMapViews
import Derived.JoinedTies
import Derived.KernelRfl
namespace Go.Proofs.Ybulkapxu
/- THE CELL 'sum', in the pinned program and in every row, IS THE sha256 OF THE DUMP (.gsa) THAT YbulkapxuProg.lean LOADS. Nothing in Lean hashes anything: it is a label: what it is worth is what the hold of that sum in a sandbox is worth. -/
noncomputable def Yba.pinned : Pinned := { name := "ybulkapxu", sum := "e6a79b7d479946115324350a78bf903cc5eac5d51567404f6daa875a5bfbc5f3", checked := Yba.checked }
namespace Rows
def none {H : Type} : Left H := { results := [], args := [] }

/-- 'page.LawS2074BPopTo': WHATEVER THE INPUT: true; the input reads as it did. -/
def lawS2074BPopToSpec : ChangeSpec := { name := "lawS2074BPopTo", fn := fun _ => fun
  | [d1, d2, d3, d4] => { results := [.lit (.bool true)], args := [d1, d2, d3, d4] }
  | _ => none }
def lawS2074BPopToRow : OpenClaim := { program := "ybulkapxu", sum := "e6a79b7d479946115324350a78bf903cc5eac5d51567404f6daa875a5bfbc5f3", func := "example.com/pagewright/pagewright/page.LawS2074BPopTo", spec := "lawS2074BPopTo", apart := false }
def LawS2074BPopToSaid : Prop := lawS2074BPopToRow.holds Yba.pinned (OpenSpec.ofChange lawS2074BPopToSpec)

/-- ITS FALSE NEIGHBOUR: 'it returns false'. Refute it at one input. -/
def lawS2074BPopToWrong : ChangeSpec := { name := "lawS2074BPopTo", fn := fun _ => fun
  | [d1, d2, d3, d4] => { results := [.lit (.bool false)], args := [d1, d2, d3, d4] }
  | _ => none }
def LawS2074BPopToWrongFalsely : Prop := lawS2074BPopToRow.holds Yba.pinned (OpenSpec.ofChange lawS2074BPopToWrong)

/-- 'page.LawS2074CIndex': WHATEVER THE INPUT: true; the input reads as it did. -/
def lawS2074CIndexSpec : ChangeSpec := { name := "lawS2074CIndex", fn := fun _ => fun
  | [d1, d2, d3] => { results := [.lit (.bool true)], args := [d1, d2, d3] }
  | _ => none }
def lawS2074CIndexRow : OpenClaim := { program := "ybulkapxu", sum := "e6a79b7d479946115324350a78bf903cc5eac5d51567404f6daa875a5bfbc5f3", func := "example.com/pagewright/pagewright/page.LawS2074CIndex", spec := "lawS2074CIndex", apart := false }
def LawS2074CIndexSaid : Prop := lawS2074CIndexRow.holds Yba.pinned (OpenSpec.ofChange lawS2074CIndexSpec)

/-- ITS FALSE NEIGHBOUR: 'it returns false'. Refute it at one input. -/
def lawS2074CIndexWrong : ChangeSpec := { name := "lawS2074CIndex", fn := fun _ => fun
  | [d1, d2, d3] => { results := [.lit (.bool false)], args := [d1, d2, d3] }
  | _ => none }
def LawS2074CIndexWrongFalsely : Prop := lawS2074CIndexRow.holds Yba.pinned (OpenSpec.ofChange lawS2074CIndexWrong)

/-- 'page.LawS2074CForget': WHATEVER THE INPUT: true; the input reads as it did. -/
def lawS2074CForgetSpec : ChangeSpec := { name := "lawS2074CForget", fn := fun _ => fun
  | [d1, d2, d3] => { results := [.lit (.bool true)], args := [d1, d2, d3] }
  | _ => none }
def lawS2074CForgetRow : OpenClaim := { program := "ybulkapxu", sum := "e6a79b7d479946115324350a78bf903cc5eac5d51567404f6daa875a5bfbc5f3", func := "example.com/pagewright/pagewright/page.LawS2074CForget", spec := "lawS2074CForget", apart := false }
def LawS2074CForgetSaid : Prop := lawS2074CForgetRow.holds Yba.pinned (OpenSpec.ofChange lawS2074CForgetSpec)

/-- ITS FALSE NEIGHBOUR: 'it returns false'. Refute it at one input. -/
def lawS2074CForgetWrong : ChangeSpec := { name := "lawS2074CForget", fn := fun _ => fun
  | [d1, d2, d3] => { results := [.lit (.bool false)], args := [d1, d2, d3] }
  | _ => none }
def LawS2074CForgetWrongFalsely : Prop := lawS2074CForgetRow.holds Yba.pinned (OpenSpec.ofChange lawS2074CForgetWrong)

end Rows
end Go.Proofs.Ybulkapxu
