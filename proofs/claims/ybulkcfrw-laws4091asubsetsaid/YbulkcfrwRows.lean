/-
  No cell of these rows narrows 'for every input' (looked for: loops, veiled, ifaces, maps, wideKeys, modest, calm, conditions, laid).
  DERIVED. THE GIVEN ROWS OF THIS SEAT. 2 by the template 'for every input the law returns true; each argument reads behind the call as it read before'; 0 by the template 'total and deterministic' (their statements: YbulkcfrwTotals.lean).
  GIVEN WITH THE SEED: the statements are not yours to turn. If you find one false, say at which input.
  Laid BY PROGRAM, IN A SANDBOX (cutbox-rows.mjs): the forced cells as the released guide's own fill.sh prints them over the translation aad52d8346ba6796… (all of the seat's roots in one cut). By AI agents, Wed Nov 11 2026. No macro, syntax, notation, axiom, sorry.
-/
import Derived.Test.YbulkcfrwChecked
import GoSem.Claim
import GoSem.ClaimJoined
import GoSem.ClaimMapViews
import Derived.JoinedTies
import Derived.KernelRfl
namespace Go.Proofs.Ybulkcfrw
/- THE CELL 'sum', in the pinned program and in every row, IS THE sha256 OF THE DUMP (.gsa) THAT YbulkcfrwProg.lean LOADS. Nothing in Lean hashes anything: it is a label: what it is worth is what the hold of that sum in a sandbox is worth. -/
noncomputable def Yba.pinned : Pinned := { name := "ybulkcfrw", sum := "aad52d8346ba6796880ba05973e5dfa639689babc07c64de4ded37616ed0e514", checked := Yba.checked }
namespace Rows
def none {H : Type} : Left H := { results := [], args := [] }

/-- 'attrmining.LawS4091AModel': WHATEVER THE INPUT: true; the input reads as it did. -/
def lawS4091AModelSpec : ChangeSpec := { name := "lawS4091AModel", fn := fun _ => fun
  | [d1, d2, d3, d4, d5, d6] => { results := [.lit (.bool true)], args := [d1, d2, d3, d4, d5, d6] }
  | _ => none }
def lawS4091AModelRow : OpenClaim := { program := "ybulkcfrw", sum := "aad52d8346ba6796880ba05973e5dfa639689babc07c64de4ded37616ed0e514", func := "example.com/access-policy-miner/access-policy-miner/attrmining.LawS4091AModel", spec := "lawS4091AModel", unfollowed := true, recurses := true, apart := false }
def LawS4091AModelSaid : Prop := lawS4091AModelRow.holds Yba.pinned (OpenSpec.ofChange lawS4091AModelSpec)

/-- ITS FALSE NEIGHBOUR: 'it returns false'. Refute it at one input. -/
def lawS4091AModelWrong : ChangeSpec := { name := "lawS4091AModel", fn := fun _ => fun
  | [d1, d2, d3, d4, d5, d6] => { results := [.lit (.bool false)], args := [d1, d2, d3, d4, d5, d6] }
  | _ => none }
def LawS4091AModelWrongFalsely : Prop := lawS4091AModelRow.holds Yba.pinned (OpenSpec.ofChange lawS4091AModelWrong)

/-- 'attrmining.LawS4091ASubset': WHATEVER THE INPUT: true; the input reads as it did. -/
def lawS4091ASubsetSpec : ChangeSpec := { name := "lawS4091ASubset", fn := fun _ => fun
  | [d1, d2, d3, d4] => { results := [.lit (.bool true)], args := [d1, d2, d3, d4] }
  | _ => none }
def lawS4091ASubsetRow : OpenClaim := { program := "ybulkcfrw", sum := "aad52d8346ba6796880ba05973e5dfa639689babc07c64de4ded37616ed0e514", func := "example.com/access-policy-miner/access-policy-miner/attrmining.LawS4091ASubset", spec := "lawS4091ASubset", unfollowed := true, recurses := true, apart := false }
def LawS4091ASubsetSaid : Prop := lawS4091ASubsetRow.holds Yba.pinned (OpenSpec.ofChange lawS4091ASubsetSpec)

/-- ITS FALSE NEIGHBOUR: 'it returns false'. Refute it at one input. -/
def lawS4091ASubsetWrong : ChangeSpec := { name := "lawS4091ASubset", fn := fun _ => fun
  | [d1, d2, d3, d4] => { results := [.lit (.bool false)], args := [d1, d2, d3, d4] }
  | _ => none }
def LawS4091ASubsetWrongFalsely : Prop := lawS4091ASubsetRow.holds Yba.pinned (OpenSpec.ofChange lawS4091ASubsetWrong)

end Rows
end Go.Proofs.Ybulkcfrw
