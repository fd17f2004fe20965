import Derived.Test.Qxb6608754aFmtProg
import Derived.WalkKit
import Derived.WalkSpells
import Derived.WalkLawsBesides
import Derived.KernelRfl
import Derived.Below
import Derived.Stop.CallBack
import Derived.Stop.IfaceNil
import GoSem.ClaimData
import GoSem.ClaimNames
namespace Go.Proofs.Qxb6608754aFmt
open Go.RowKit Go.Extern.Stop Go.Stop Go.Extern
set_option linter.unusedVariables false

def shape9 : List UInt8 := [12, 6, 0, 0, 0, 0, 0, 0, 0, 115, 116, 114, 105, 110, 103]
def shape3 : List UInt8 := [5, 3, 0, 0, 0, 0, 0, 0, 0, 105, 110, 116]
theorem call14 (args : Array Value) (w : World) : (callFunc 14 args).run Tryf.prog w = ((FmtStop.errorf #[9, 34] #[25] args).run Tryf.prog w).andThen fun v w' => .ok (.value v) w' :=
  run_callFunc_extern Tryf.func14 (by kernel_rfl) (by kernel_rfl) (by kernel_rfl) (by kernel_rfl) args w
theorem guard (name : String) (w : World) : (FmtStop.guard name).run Tryf.prog w = .ok () w := by kernel_rfl
theorem fmt0 : FmtStop.printed? ⟨#[86, 76, 65, 78, 32, 73, 68, 32, 37, 115, 32, 105, 115, 32, 110, 111, 116, 32, 97, 32, 110, 117, 109, 98, 101, 114, 32, 102, 114, 111, 109, 32, 37, 100, 32, 116, 111, 32, 37, 100]⟩ 3 = some [(0, 115, false), (1, 100, false), (2, 100, false)] := by kernel_rfl
theorem fmt0r (w : World) : (FmtDoors.printed ⟨#[86, 76, 65, 78, 32, 73, 68, 32, 37, 115, 32, 105, 115, 32, 110, 111, 116, 32, 97, 32, 110, 117, 109, 98, 101, 114, 32, 102, 114, 111, 109, 32, 37, 100, 32, 116, 111, 32, 37, 100]⟩ 3).run Tryf.prog w = .ok [(0, 115, false), (1, 100, false), (2, 100, false)] w := by kernel_rfl
theorem op9_115 (name : String) (x : ByteArray) (w : World) : (FmtStop.operand name true 115 false (.iface 9 (.string x))).run Tryf.prog w = .ok (shape9, FmtStop.pack x.data.toList) w := by kernel_rfl
theorem op3_100 (name : String) (x : Int) (w : World) : (FmtStop.operand name true 100 false (.iface 3 (.int .i64 x))).run Tryf.prog w = .ok (shape3, digits 8 (x % 2 ^ 64).toNat) w := by kernel_rfl

theorem ptr44 (w : World) : (FmtStop.ptrTo "errors.errorString").run Tryf.prog w = .ok 44 w := by kernel_rfl
theorem elem44 (w : World) : (elemOf 44).run Tryf.prog w = .ok 46 w := by kernel_rfl

attribute [local go_sem] ptr44 elem44 call14 guard fmt0 fmt0r op9_115 op3_100

set_option maxHeartbeats 1000000 in
theorem errorf_any (F : Interp) (s : ByteArray) (blk : Nat) (w : World) (hF : F.answers w.tape)
    (hc0 : w.cell? ⟨blk, 0, none⟩ = some (.iface 9 (.string s))) (hc1 : w.cell? ⟨blk, 1, none⟩ = some (.iface 3 (.int .i64 1))) (hc2 : w.cell? ⟨blk, 2, none⟩ = some (.iface 3 (.int .i64 4094))) :
    Calls Tryf.prog 11 #[.string ⟨#[86, 76, 65, 78, 32, 73, 68, 32, 37, 115, 32, 105, 115, 32, 110, 111, 116, 32, 97, 32, 110, 117, 109, 98, 101, 114, 32, 102, 114, 111, 109, 32, 37, 100, 32, 116, 111, 32, 37, 100]⟩, .slice (some ⟨blk, 0, none⟩) 3 3] w fun e w' => ∃ t p, e = .returned (.iface t p) ∧ Below w.heap.size w w' := by
  have hF' := Go.Stop.Interp.answers_open hF
  go_enter Tryf.func11, Tryf.ntmps11
  go_wp2
  go_ret
  exact ⟨_, _, rfl, ((Below.refl _ _).alloc (Nat.le_refl _) _).drew⟩

end Go.Proofs.Qxb6608754aFmt
