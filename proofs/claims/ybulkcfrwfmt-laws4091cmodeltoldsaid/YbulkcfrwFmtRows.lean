/-
  No cell of these rows narrows 'for every input' (looked for: loops, veiled, ifaces, maps, wideKeys, modest, calm, conditions, laid).
  DERIVED. THE GIVEN ROWS OF THIS SEAT. 3 by the template 'for every input the law returns true; each argument reads behind the call as it read before'; 0 by the template 'total and deterministic' (their statements: YbulkcfrwFmtTotals.lean).
  GIVEN WITH THE SEED: the statements are not yours to turn. If you find one false, say at which input.
  Laid BY PROGRAM, IN A SANDBOX (cutbox-rows.mjs): the forced cells as the released guide's own fill.sh prints them over the translation 71099ed546cdbe2a… (all of the seat's roots in one cut). By AI agents, Wed Nov 11 2026. No macro, syntax, notation, axiom, sorry.
-/
import Derived.Test.YbulkcfrwFmtChecked
import GoSem.Claim
import GoSem.ClaimJoined
import GoSem.ClaimMapViews
import Derived.JoinedTies
import Derived.KernelRfl
namespace Go.Proofs.YbulkcfrwFmt
/- THE CELL 'sum', in the pinned program and in every row, IS THE sha256 OF THE DUMP (.gsa) THAT YbulkcfrwFmtProg.lean LOADS. Nothing in Lean hashes anything: it is a label: what it is worth is what the hold of that sum in a sandbox is worth. -/
noncomputable def Ybaf.pinned : Pinned := { name := "ybulkcfrwfmt", sum := "71099ed546cdbe2a2707d0130c2548b2e11b43a7a2f2f4e7ecc2dac8278f1c60", checked := Ybaf.checked }
namespace Rows
def none {H : Type} : Left H := { results := [], args := [] }

/-- 'rolepolicy.LawS4091BVerdict': WHATEVER THE INPUT: true; the input reads as it did. -/
def lawS4091BVerdictSpec : ChangeSpec := { name := "lawS4091BVerdict", fn := fun _ => fun
  | [d1, d2] => { results := [.lit (.bool true)], args := [d1, d2] }
  | _ => none }
def lawS4091BVerdictRow : OpenClaim := { program := "ybulkcfrwfmt", sum := "71099ed546cdbe2a2707d0130c2548b2e11b43a7a2f2f4e7ecc2dac8278f1c60", func := "example.com/access-policy-miner/access-policy-miner/rolepolicy.LawS4091BVerdict", spec := "lawS4091BVerdict", stops := ["fmt.errorf", "fmt.Sprintf, its operands' methods called"], inPlace := ["internal/bytealg.Count", "internal/bytealg.IndexByte", "internal/bytealg.Index", "fmt.Sprintf", "fmt.errorf", "internal/abi.NoEscape", "internal/bytealg.MakeNoZero"], unfollowed := true, recurses := true, named := ["internal/bytealg.MaxLen"], apart := false }
/-- NO THEOREM (fmt's text is open here; it may be false): for the released tool's asking of the row's closed facts alone. THE STATEMENT IS 'LawS4091BVerdictToldSaid' (YbulkcfrwFmtCards.lean). -/
def LawS4091BVerdictFormAsk : Prop := lawS4091BVerdictRow.holds Ybaf.pinned (OpenSpec.ofChange lawS4091BVerdictSpec)

/-- ITS FALSE NEIGHBOUR: 'it returns false'. Refute it at one input. -/
def lawS4091BVerdictWrong : ChangeSpec := { name := "lawS4091BVerdict", fn := fun _ => fun
  | [d1, d2] => { results := [.lit (.bool false)], args := [d1, d2] }
  | _ => none }
def LawS4091BVerdictWrongFormAsk : Prop := lawS4091BVerdictRow.holds Ybaf.pinned (OpenSpec.ofChange lawS4091BVerdictWrong)

/-- 'rolepolicy.LawS4091BCycles': WHATEVER THE INPUT: true; the input reads as it did. -/
def lawS4091BCyclesSpec : ChangeSpec := { name := "lawS4091BCycles", fn := fun _ => fun
  | [d1, d2] => { results := [.lit (.bool true)], args := [d1, d2] }
  | _ => none }
def lawS4091BCyclesRow : OpenClaim := { program := "ybulkcfrwfmt", sum := "71099ed546cdbe2a2707d0130c2548b2e11b43a7a2f2f4e7ecc2dac8278f1c60", func := "example.com/access-policy-miner/access-policy-miner/rolepolicy.LawS4091BCycles", spec := "lawS4091BCycles", stops := ["fmt.errorf", "fmt.Sprintf, its operands' methods called"], inPlace := ["internal/bytealg.Count", "internal/bytealg.IndexByte", "internal/bytealg.Index", "fmt.Sprintf", "fmt.errorf", "internal/abi.NoEscape", "internal/bytealg.MakeNoZero"], unfollowed := true, recurses := true, named := ["internal/bytealg.MaxLen"], apart := false }
/-- NO THEOREM (fmt's text is open here; it may be false): for the released tool's asking of the row's closed facts alone. THE STATEMENT IS 'LawS4091BCyclesToldSaid' (YbulkcfrwFmtCards.lean). -/
def LawS4091BCyclesFormAsk : Prop := lawS4091BCyclesRow.holds Ybaf.pinned (OpenSpec.ofChange lawS4091BCyclesSpec)

/-- ITS FALSE NEIGHBOUR: 'it returns false'. Refute it at one input. -/
def lawS4091BCyclesWrong : ChangeSpec := { name := "lawS4091BCycles", fn := fun _ => fun
  | [d1, d2] => { results := [.lit (.bool false)], args := [d1, d2] }
  | _ => none }
def LawS4091BCyclesWrongFormAsk : Prop := lawS4091BCyclesRow.holds Ybaf.pinned (OpenSpec.ofChange lawS4091BCyclesWrong)

/-- 'attrpolicy.LawS4091CModel': WHATEVER THE INPUT: true; the input reads as it did. -/
def lawS4091CModelSpec : ChangeSpec := { name := "lawS4091CModel", fn := fun _ => fun
  | [d1, d2] => { results := [.lit (.bool true)], args := [d1, d2] }
  | _ => none }
def lawS4091CModelRow : OpenClaim := { program := "ybulkcfrwfmt", sum := "71099ed546cdbe2a2707d0130c2548b2e11b43a7a2f2f4e7ecc2dac8278f1c60", func := "example.com/access-policy-miner/access-policy-miner/attrpolicy.LawS4091CModel", spec := "lawS4091CModel", stops := ["fmt.errorf", "fmt.Sprintf, its operands' methods called"], inPlace := ["fmt.errorf"], unfollowed := true, recurses := true, apart := false }
/-- NO THEOREM (fmt's text is open here; it may be false): for the released tool's asking of the row's closed facts alone. THE STATEMENT IS 'LawS4091CModelToldSaid' (YbulkcfrwFmtCards.lean). -/
def LawS4091CModelFormAsk : Prop := lawS4091CModelRow.holds Ybaf.pinned (OpenSpec.ofChange lawS4091CModelSpec)

/-- ITS FALSE NEIGHBOUR: 'it returns false'. Refute it at one input. -/
def lawS4091CModelWrong : ChangeSpec := { name := "lawS4091CModel", fn := fun _ => fun
  | [d1, d2] => { results := [.lit (.bool false)], args := [d1, d2] }
  | _ => none }
def LawS4091CModelWrongFormAsk : Prop := lawS4091CModelRow.holds Ybaf.pinned (OpenSpec.ofChange lawS4091CModelWrong)

end Rows
end Go.Proofs.YbulkcfrwFmt
