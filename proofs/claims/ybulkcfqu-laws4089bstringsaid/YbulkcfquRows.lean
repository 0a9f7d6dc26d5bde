/-
  No cell of these rows narrows 'for every input' (looked for: loops, veiled, ifaces, maps, wideKeys, modest, calm, conditions, laid).
  DERIVED. THE GIVEN ROWS OF THIS SEAT. 2 by the template 'for every input the law returns true; each argument reads behind the call as it read before'; 0 by the template 'total and deterministic' (their statements: YbulkcfquTotals.lean).
  GIVEN WITH THE SEED: the statements are not yours to turn. If you find one false, say at which input.
  Laid BY PROGRAM, IN A SANDBOX (cutbox-rows.mjs): the forced cells as the released guide's own fill.sh prints them over the translation dcee1de1fc9ff6f3… (all of the seat's roots in one cut). By AI agents, Wed Nov 11 2026. No macro, syntax, notation, axiom, sorry.
-/
import Derived.Test.YbulkcfquChecked
import GoSem.Claim
import GoSem.ClaimJoined
import GoSem.ClaimMapViews
import Derived.JoinedTies
import Derived.KernelRfl
namespace Go.Proofs.Ybulkcfqu
/- THE CELL 'sum', in the pinned program and in every row, IS THE sha256 OF THE DUMP (.gsa) THAT YbulkcfquProg.lean LOADS. Nothing in Lean hashes anything: it is a label: what it is worth is what the hold of that sum in a sandbox is worth. -/
noncomputable def Yba.pinned : Pinned := { name := "ybulkcfqu", sum := "dcee1de1fc9ff6f3dfaa0ece0056cee8dc3befb77a098388ca5a1b1988e52c91", checked := Yba.checked }
namespace Rows
def none {H : Type} : Left H := { results := [], args := [] }

/-- 'core.LawS4089BString': WHATEVER THE INPUT: true; the input reads as it did. -/
def lawS4089BStringSpec : ChangeSpec := { name := "lawS4089BString", fn := fun _ => fun
  | [d1, d2, d3, d4] => { results := [.lit (.bool true)], args := [d1, d2, d3, d4] }
  | _ => none }
def lawS4089BStringRow : OpenClaim := { program := "ybulkcfqu", sum := "dcee1de1fc9ff6f3dfaa0ece0056cee8dc3befb77a098388ca5a1b1988e52c91", func := "example.com/rollcall/rollcall/internal/core.LawS4089BString", spec := "lawS4089BString", apart := false }
def LawS4089BStringSaid : Prop := lawS4089BStringRow.holds Yba.pinned (OpenSpec.ofChange lawS4089BStringSpec)

/-- ITS FALSE NEIGHBOUR: 'it returns false'. Refute it at one input. -/
def lawS4089BStringWrong : ChangeSpec := { name := "lawS4089BString", fn := fun _ => fun
  | [d1, d2, d3, d4] => { results := [.lit (.bool false)], args := [d1, d2, d3, d4] }
  | _ => none }
def LawS4089BStringWrongFalsely : Prop := lawS4089BStringRow.holds Yba.pinned (OpenSpec.ofChange lawS4089BStringWrong)

/-- 'core.LawS4089BInt': WHATEVER THE INPUT: true; the input reads as it did. -/
def lawS4089BIntSpec : ChangeSpec := { name := "lawS4089BInt", fn := fun _ => fun
  | [d1, d2, d3] => { results := [.lit (.bool true)], args := [d1, d2, d3] }
  | _ => none }
def lawS4089BIntRow : OpenClaim := { program := "ybulkcfqu", sum := "dcee1de1fc9ff6f3dfaa0ece0056cee8dc3befb77a098388ca5a1b1988e52c91", func := "example.com/rollcall/rollcall/internal/core.LawS4089BInt", spec := "lawS4089BInt", apart := false }
def LawS4089BIntSaid : Prop := lawS4089BIntRow.holds Yba.pinned (OpenSpec.ofChange lawS4089BIntSpec)

/-- ITS FALSE NEIGHBOUR: 'it returns false'. Refute it at one input. -/
def lawS4089BIntWrong : ChangeSpec := { name := "lawS4089BInt", fn := fun _ => fun
  | [d1, d2, d3] => { results := [.lit (.bool false)], args := [d1, d2, d3] }
  | _ => none }
def LawS4089BIntWrongFalsely : Prop := lawS4089BIntRow.holds Yba.pinned (OpenSpec.ofChange lawS4089BIntWrong)

end Rows
end Go.Proofs.Ybulkcfqu
