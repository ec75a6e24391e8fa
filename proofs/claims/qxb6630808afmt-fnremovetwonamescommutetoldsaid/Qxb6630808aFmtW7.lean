import Derived.Test.Qxb6630808aFmtW6
import Derived.Stop.CallBack
import Derived.Stop.IfaceNil
import GoSem.ClaimData
import GoSem.ClaimTold
namespace Go.Proofs.Qxb6630808aFmt
open Go.RowKit Go.Extern.Stop Go.Stop Go.Extern

theorem Tryf.call19 (args : Array Value) (w : World) : (callFunc 19 args).run Tryf.prog w = ((FmtStop.errorf #[9, 49] #[32] args).run Tryf.prog w).andThen fun v w' => .ok (.value v) w' :=
  run_callFunc_extern Tryf.func19 (by kernel_rfl) (by kernel_rfl) (by kernel_rfl) (by kernel_rfl) args w
theorem Tryf.guard (name : String) (w : World) : (FmtStop.guard name).run Tryf.prog w = .ok () w := by kernel_rfl
theorem Tryf.fmt0 : FmtStop.printed? ⟨#[110, 111, 32, 115, 111, 117, 114, 99, 101, 32, 110, 97, 109, 101, 100, 32, 37, 115, 59, 32, 37, 115]⟩ 2 = some [(0, 115, false), (1, 115, false)] := by kernel_rfl
theorem Tryf.fmt0r (w : World) : (FmtDoors.printed ⟨#[110, 111, 32, 115, 111, 117, 114, 99, 101, 32, 110, 97, 109, 101, 100, 32, 37, 115, 59, 32, 37, 115]⟩ 2).run Tryf.prog w = .ok [(0, 115, false), (1, 115, false)] w := by kernel_rfl
theorem Tryf.name9 : Tryf.prog.typeName? 3 9 = some "string" := by kernel_rfl
def Tryf.shape9 : List UInt8 := [12, 6, 0, 0, 0, 0, 0, 0, 0, 115, 116, 114, 105, 110, 103]
theorem Tryf.op9_115 (name : String) (x : ByteArray) (w : World) : (FmtStop.operand name false 115 false (.iface 9 (.string x))).run Tryf.prog w = .ok (Tryf.shape9, FmtStop.pack x.data.toList) w := by kernel_rfl
theorem Tryf.op9_115w (name : String) (x : ByteArray) (w : World) : (FmtStop.operand name true 115 false (.iface 9 (.string x))).run Tryf.prog w = .ok (Tryf.shape9, FmtStop.pack x.data.toList) w := by kernel_rfl
theorem Tryf.strict9 (name : String) (x : ByteArray) (w : World) : (FmtStop.strict name (.iface 9 (.string x))).run Tryf.prog w = .ok (Tryf.shape9, FmtStop.pack x.data.toList) w := by kernel_rfl
theorem Tryf.ptr54 (w : World) : (FmtStop.ptrTo "errors.errorString").run Tryf.prog w = .ok 54 w := by kernel_rfl
theorem Tryf.elem54 (w : World) : (elemOf 54).run Tryf.prog w = .ok 56 w := by kernel_rfl
theorem Tryf.isError54' (w : World) : (FmtDoors.textMethod 54 "Error").run Tryf.prog w = .ok true w := by kernel_rfl

set_option maxHeartbeats 1000000 in
set_option maxRecDepth 100000 in
theorem errorf_any (F : Interp) (nm s : ByteArray) (blk : Nat) (w : World) (hF : F.answers w.tape) (hc0 : w.cell? ⟨blk, 0, none⟩ = some (.iface 9 (.string nm))) (hc1 : w.cell? ⟨blk, 1, none⟩ = some (.iface 9 (.string s))) :
    Calls Tryf.prog 17 #[.string ⟨#[110, 111, 32, 115, 111, 117, 114, 99, 101, 32, 110, 97, 109, 101, 100, 32, 37, 115, 59, 32, 37, 115]⟩, .slice (some ⟨blk, 0, none⟩) 2 2] w fun e w' =>
      e = .returned (.iface 54 (.pointer (some ⟨w.heap.size, 0, none⟩))) ∧ Below w.heap.size w w' := by
  have hF' := answers_open hF
  have g1 := Tryf.call19
  have g2 := Tryf.guard
  have g3 := Tryf.fmt0
  have g4 := Tryf.fmt0r
  have g5 := Tryf.op9_115
  have g6 := Tryf.op9_115w
  have g7 := Tryf.strict9
  have g8 := Tryf.ptr54
  have g9 := Tryf.elem54
  have g10 := Tryf.isError54'
  go_enter Tryf.func17, Tryf.ntmps17
  go_wp2
  go_ret
  exact ⟨rfl, ((Below.refl _ _).alloc (Nat.le_refl _) _).drew⟩
end Go.Proofs.Qxb6630808aFmt
