/-
  No cell of these rows narrows 'for every input' (looked for: loops, veiled, ifaces, maps, wideKeys, modest, calm, conditions, laid).
  DERIVED. THE GIVEN ROWS OF THIS SEAT. 4 by the template 'for every input the law returns true; each argument reads behind the call as it read before'; 0 by the template 'total and deterministic' (their statements: YbulkcfpsTotals.lean).
  GIVEN WITH THE SEED: the statements are not yours to turn. If you find one false, say at which input.
  Laid BY PROGRAM, IN A SANDBOX (cutbox-rows.mjs): the forced cells as the released guide's own fill.sh prints them over the translation 56948e924ea9a75d… (all of the seat's roots in one cut). By AI agents, Wed Nov 11 2026. No macro, syntax, notation, axiom, sorry.
-/
import Derived.Test.YbulkcfpsChecked
import GoSem.Claim
import GoSem.ClaimJoined
import GoSem.ClaimMapViews
import Derived.JoinedTies
import Derived.KernelRfl
namespace Go.Proofs.Ybulkcfps
/- THE CELL 'sum', in the pinned program and in every row, IS THE sha256 OF THE DUMP (.gsa) THAT YbulkcfpsProg.lean LOADS. Nothing in Lean hashes anything: it is a label: what it is worth is what the hold of that sum in a sandbox is worth. -/
noncomputable def Yba.pinned : Pinned := { name := "ybulkcfps", sum := "56948e924ea9a75d79bc148bc054bd8833bf4ec380e377375e1c9baaa549822f", checked := Yba.checked }
namespace Rows
def none {H : Type} : Left H := { results := [], args := [] }

/-- 'reserve.LawS4087AWhole': WHATEVER THE INPUT: true; the input reads as it did. -/
def lawS4087AWholeSpec : ChangeSpec := { name := "lawS4087AWhole", fn := fun _ => fun
  | [d1, d2, d3, d4, d5, d6, d7, d8] => { results := [.lit (.bool true)], args := [d1, d2, d3, d4, d5, d6, d7, d8] }
  | _ => none }
def lawS4087AWholeRow : OpenClaim := { program := "ybulkcfps", sum := "56948e924ea9a75d79bc148bc054bd8833bf4ec380e377375e1c9baaa549822f", func := "example.com/foreslot/foreslot/pkg/reserve.LawS4087AWhole", spec := "lawS4087AWhole", apart := false }
def LawS4087AWholeSaid : Prop := lawS4087AWholeRow.holds Yba.pinned (OpenSpec.ofChange lawS4087AWholeSpec)

/-- ITS FALSE NEIGHBOUR: 'it returns false'. Refute it at one input. -/
def lawS4087AWholeWrong : ChangeSpec := { name := "lawS4087AWhole", fn := fun _ => fun
  | [d1, d2, d3, d4, d5, d6, d7, d8] => { results := [.lit (.bool false)], args := [d1, d2, d3, d4, d5, d6, d7, d8] }
  | _ => none }
def LawS4087AWholeWrongFalsely : Prop := lawS4087AWholeRow.holds Yba.pinned (OpenSpec.ofChange lawS4087AWholeWrong)

/-- 'reserve.LawS4087ALongest': WHATEVER THE INPUT: true; the input reads as it did. -/
def lawS4087ALongestSpec : ChangeSpec := { name := "lawS4087ALongest", fn := fun _ => fun
  | [d] => { results := [.lit (.bool true)], args := [d] }
  | _ => none }
def lawS4087ALongestRow : OpenClaim := { program := "ybulkcfps", sum := "56948e924ea9a75d79bc148bc054bd8833bf4ec380e377375e1c9baaa549822f", func := "example.com/foreslot/foreslot/pkg/reserve.LawS4087ALongest", spec := "lawS4087ALongest", apart := false }
def LawS4087ALongestSaid : Prop := lawS4087ALongestRow.holds Yba.pinned (OpenSpec.ofChange lawS4087ALongestSpec)

/-- ITS FALSE NEIGHBOUR: 'it returns false'. Refute it at one input. -/
def lawS4087ALongestWrong : ChangeSpec := { name := "lawS4087ALongest", fn := fun _ => fun
  | [d] => { results := [.lit (.bool false)], args := [d] }
  | _ => none }
def LawS4087ALongestWrongFalsely : Prop := lawS4087ALongestRow.holds Yba.pinned (OpenSpec.ofChange lawS4087ALongestWrong)

/-- 'reserve.LawS4087CNoReplay': WHATEVER THE INPUT: true; the input reads as it did. -/
def lawS4087CNoReplaySpec : ChangeSpec := { name := "lawS4087CNoReplay", fn := fun _ => fun
  | [d1, d2, d3, d4] => { results := [.lit (.bool true)], args := [d1, d2, d3, d4] }
  | _ => none }
def lawS4087CNoReplayRow : OpenClaim := { program := "ybulkcfps", sum := "56948e924ea9a75d79bc148bc054bd8833bf4ec380e377375e1c9baaa549822f", func := "example.com/foreslot/foreslot/pkg/reserve.LawS4087CNoReplay", spec := "lawS4087CNoReplay", unfollowed := true, recurses := true, apart := false }
def LawS4087CNoReplaySaid : Prop := lawS4087CNoReplayRow.holds Yba.pinned (OpenSpec.ofChange lawS4087CNoReplaySpec)

/-- ITS FALSE NEIGHBOUR: 'it returns false'. Refute it at one input. -/
def lawS4087CNoReplayWrong : ChangeSpec := { name := "lawS4087CNoReplay", fn := fun _ => fun
  | [d1, d2, d3, d4] => { results := [.lit (.bool false)], args := [d1, d2, d3, d4] }
  | _ => none }
def LawS4087CNoReplayWrongFalsely : Prop := lawS4087CNoReplayRow.holds Yba.pinned (OpenSpec.ofChange lawS4087CNoReplayWrong)

/-- 'reserve.LawS4087CInForce': WHATEVER THE INPUT: true; the input reads as it did. -/
def lawS4087CInForceSpec : ChangeSpec := { name := "lawS4087CInForce", fn := fun _ => fun
  | [d1, d2, d3, d4, d5] => { results := [.lit (.bool true)], args := [d1, d2, d3, d4, d5] }
  | _ => none }
def lawS4087CInForceRow : OpenClaim := { program := "ybulkcfps", sum := "56948e924ea9a75d79bc148bc054bd8833bf4ec380e377375e1c9baaa549822f", func := "example.com/foreslot/foreslot/pkg/reserve.LawS4087CInForce", spec := "lawS4087CInForce", unfollowed := true, recurses := true, apart := false }
def LawS4087CInForceSaid : Prop := lawS4087CInForceRow.holds Yba.pinned (OpenSpec.ofChange lawS4087CInForceSpec)

/-- ITS FALSE NEIGHBOUR: 'it returns false'. Refute it at one input. -/
def lawS4087CInForceWrong : ChangeSpec := { name := "lawS4087CInForce", fn := fun _ => fun
  | [d1, d2, d3, d4, d5] => { results := [.lit (.bool false)], args := [d1, d2, d3, d4, d5] }
  | _ => none }
def LawS4087CInForceWrongFalsely : Prop := lawS4087CInForceRow.holds Yba.pinned (OpenSpec.ofChange lawS4087CInForceWrong)

end Rows
end Go.Proofs.Ybulkcfps
