/-
  DERIVED. GIVEN WITH THE SEED: THE CARDS: each row of YbulkcfrwFmtRows.lean that lists a variable, with what it lists TIED to the program's text (the seventh form; the later family's looks); each row that meets fmt, with fmt's text TOLD by the authors' own Lean function (tested against real Go, not proved from fmt's source: count such statements apart). THE CARD IS WHAT COUNTS. Prove the row's statement (the work); the ties are given (YbulkcfrwFmtTie.lean); close each card by the builder's one call (the guide's Derived/Test/ToyasCard.lean, 'card_holds'). Laid BY PROGRAM, IN A SANDBOX (cutbox-door.mjs). By AI agents, Wed Nov 11 2026. No macro, syntax, notation, axiom, sorry.
-/
import Derived.Test.YbulkcfrwFmtRows
import GoSem.ClaimSeven
namespace Go.Proofs.YbulkcfrwFmt
namespace Rows

/-- THE TOLD CARD OF 'rolepolicy.LawS4091BVerdict'. -/
def lawS4091BVerdictCard : Claim7 := { stood := { row := lawS4091BVerdictRow, standIns := [], harness := (true, "8592657ea881798496a0cef90a6c4e2b53df97fc3233a65293af66d9446f2d19"), looks := false }, told := true, goes := false }
def LawS4091BVerdictToldSaid : Prop := Claim7.holds Ybaf.pinned (.plain (OpenSpec.ofChange lawS4091BVerdictSpec)) lawS4091BVerdictCard
/-- ITS FALSE NEIGHBOUR. Refute it at one input. -/
def LawS4091BVerdictToldWrongFalsely : Prop := Claim7.holds Ybaf.pinned (.plain (OpenSpec.ofChange lawS4091BVerdictWrong)) lawS4091BVerdictCard

/-- THE TOLD CARD OF 'rolepolicy.LawS4091BCycles'. -/
def lawS4091BCyclesCard : Claim7 := { stood := { row := lawS4091BCyclesRow, standIns := [], harness := (true, "8592657ea881798496a0cef90a6c4e2b53df97fc3233a65293af66d9446f2d19"), looks := false }, told := true, goes := false }
def LawS4091BCyclesToldSaid : Prop := Claim7.holds Ybaf.pinned (.plain (OpenSpec.ofChange lawS4091BCyclesSpec)) lawS4091BCyclesCard
/-- ITS FALSE NEIGHBOUR. Refute it at one input. -/
def LawS4091BCyclesToldWrongFalsely : Prop := Claim7.holds Ybaf.pinned (.plain (OpenSpec.ofChange lawS4091BCyclesWrong)) lawS4091BCyclesCard

/-- THE TOLD CARD OF 'attrpolicy.LawS4091CModel'. -/
def lawS4091CModelCard : Claim7 := { stood := { row := lawS4091CModelRow, standIns := [], harness := (true, "8592657ea881798496a0cef90a6c4e2b53df97fc3233a65293af66d9446f2d19"), looks := false }, told := true, goes := false }
def LawS4091CModelToldSaid : Prop := Claim7.holds Ybaf.pinned (.plain (OpenSpec.ofChange lawS4091CModelSpec)) lawS4091CModelCard
/-- ITS FALSE NEIGHBOUR. Refute it at one input. -/
def LawS4091CModelToldWrongFalsely : Prop := Claim7.holds Ybaf.pinned (.plain (OpenSpec.ofChange lawS4091CModelWrong)) lawS4091CModelCard
end Rows
end Go.Proofs.YbulkcfrwFmt
