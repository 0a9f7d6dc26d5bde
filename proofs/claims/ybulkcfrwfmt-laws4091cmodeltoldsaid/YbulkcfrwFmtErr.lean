/- Seat b4091aF: fmt.Errorf at the one format of this road. fmt's own text is not looked at: F is whatever fmt gives. -/
import Derived.Test.YbulkcfrwFmtProg
import Derived.WalkKit
import Derived.WalkSpells
import Derived.Below
import Derived.Stop.CallBack
import Derived.Stop.IfaceNil
import GoSem.ClaimData
namespace Go.Proofs.YbulkcfrwFmt.Err
open Go.RowKit Go.Extern.Stop Go.Stop Go.Extern

theorem call30 (args : Array Value) (w : World) : (callFunc 30 args).run Ybaf.prog w = ((FmtStop.errorf #[9, 84] #[34] args).run Ybaf.prog w).andThen fun v w' => .ok (.value v) w' :=
  run_callFunc_extern Ybaf.func30 (by kernel_rfl) (by kernel_rfl) (by kernel_rfl) (by kernel_rfl) args w
theorem guard (name : String) (w : World) : (FmtStop.guard name).run Ybaf.prog w = .ok () w := by kernel_rfl
theorem fmt0 : FmtStop.printed? ⟨#[99, 111, 109, 98, 105, 110, 105, 110, 103, 32, 105, 116, 115, 32, 93, 32, 99, 111, 110, 106, 117, 110, 99, 116, 115, 32, 109, 97, 107, 101, 115, 32, 109, 111, 114, 101, 32, 116, 104, 97, 110, 32, 37, 100, 32, 118, 97, 108, 117, 101, 115]⟩ 1 = some [(0, 100, false)] := by kernel_rfl
theorem fmt0r (w : World) : (FmtDoors.printed ⟨#[99, 111, 109, 98, 105, 110, 105, 110, 103, 32, 105, 116, 115, 32, 93, 32, 99, 111, 110, 106, 117, 110, 99, 116, 115, 32, 109, 97, 107, 101, 115, 32, 109, 111, 114, 101, 32, 116, 104, 97, 110, 32, 37, 100, 32, 118, 97, 108, 117, 101, 115]⟩ 1).run Ybaf.prog w = .ok [(0, 100, false)] w := by kernel_rfl
def shape3 : List UInt8 := [5, 3, 0, 0, 0, 0, 0, 0, 0, 105, 110, 116]
theorem op3_100 (name : String) (x : Int) (w : World) : (FmtStop.operand name false 100 false (.iface 3 (.int .i64 x))).run Ybaf.prog w = .ok (shape3, Go.Extern.Stop.digits 8 (x % 2 ^ 64).toNat) w := by kernel_rfl
theorem op3_100w (name : String) (x : Int) (w : World) : (FmtStop.operand name true 100 false (.iface 3 (.int .i64 x))).run Ybaf.prog w = .ok (shape3, Go.Extern.Stop.digits 8 (x % 2 ^ 64).toNat) w := by kernel_rfl
theorem strict3 (name : String) (x : Int) (w : World) : (FmtStop.strict name (.iface 3 (.int .i64 x))).run Ybaf.prog w = .ok (shape3, Go.Extern.Stop.digits 8 (x % 2 ^ 64).toNat) w := by kernel_rfl
theorem ptr114 (w : World) : (FmtStop.ptrTo "errors.errorString").run Ybaf.prog w = .ok 114 w := by kernel_rfl
theorem elem114 (w : World) : (elemOf 114).run Ybaf.prog w = .ok 116 w := by kernel_rfl
theorem isError114 (w : World) : (FmtDoors.textMethod 114 "Error").run Ybaf.prog w = .ok true w := by kernel_rfl
attribute [local go_sem] call30 guard fmt0 fmt0r op3_100 op3_100w strict3 ptr114 elem114 isError114

/-- fmt.Errorf at the one format of this road: an error that is not nil; nothing old has turned. -/
theorem errorf_any (F : Interp) (blk : Nat) (w : World) (hF : F.answers w.tape) (hc : w.cell? ⟨blk, 0, none⟩ = some (.iface 3 (.int .i64 4194304))) :
    Calls Ybaf.prog 19 #[.string ⟨#[99, 111, 109, 98, 105, 110, 105, 110, 103, 32, 105, 116, 115, 32, 93, 32, 99, 111, 110, 106, 117, 110, 99, 116, 115, 32, 109, 97, 107, 101, 115, 32, 109, 111, 114, 101, 32, 116, 104, 97, 110, 32, 37, 100, 32, 118, 97, 108, 117, 101, 115]⟩, .slice (some ⟨blk, 0, none⟩) 1 1] w fun e w' => ∃ a, e = .returned (.iface 114 (.pointer a)) ∧ Below w.heap.size w w' := by
  have hF' : ∀ i name reading k range, w.tape i (.extern (word name reading k) range) = F name reading k := hF
  go_enter Ybaf.func19, Ybaf.ntmps19
  go_wp2
  go_ret
  exact ⟨_, rfl, ((Below.refl _ _).alloc (Nat.le_refl _) _).drew⟩
end Go.Proofs.YbulkcfrwFmt.Err
