import Derived.Test.Qxb6609012aFmtBase
import Derived.Stop.CallBack
import Derived.Stop.IfaceNil
import GoSem.ClaimData
namespace Go.Proofs.Qxb6609012aFmt
open Go.RowKit Go.Extern.Stop Go.Stop Go.Extern
set_option linter.unusedSimpArgs false
set_option linter.unusedVariables false

theorem call17 (args : Array Value) (w : World) : (callFunc 17 args).run Tryf.prog w = ((FmtStop.errorf #[9, 41] #[33] args).run Tryf.prog w).andThen fun v w' => .ok (.value v) w' :=
  run_callFunc_extern Tryf.func17 (by kernel_rfl) (by kernel_rfl) (by kernel_rfl) (by kernel_rfl) args w
theorem guard (name : String) (w : World) : (FmtStop.guard name).run Tryf.prog w = .ok () w := by kernel_rfl
theorem fmtA : FmtStop.printed? ⟨#[101, 120, 112, 101, 99, 116, 101, 100, 32, 37, 115, 58, 32, 37, 100, 32, 116, 111, 32, 37, 100, 44, 32, 105, 110, 32, 97, 116, 32, 109, 111, 115, 116, 32, 37, 100, 32, 100, 105, 103, 105, 116, 115]⟩ 4 = some [(0, 115, false), (1, 100, false), (2, 100, false), (3, 100, false)] := by kernel_rfl
theorem fmtAr (w : World) : (FmtDoors.printed ⟨#[101, 120, 112, 101, 99, 116, 101, 100, 32, 37, 115, 58, 32, 37, 100, 32, 116, 111, 32, 37, 100, 44, 32, 105, 110, 32, 97, 116, 32, 109, 111, 115, 116, 32, 37, 100, 32, 100, 105, 103, 105, 116, 115]⟩ 4).run Tryf.prog w = .ok [(0, 115, false), (1, 100, false), (2, 100, false), (3, 100, false)] w := by kernel_rfl
theorem fmtB : FmtStop.printed? ⟨#[37, 115, 58, 32, 37, 100, 32, 105, 115, 32, 111, 117, 116, 115, 105, 100, 101, 32, 37, 100, 46, 46, 37, 100]⟩ 4 = some [(0, 115, false), (1, 100, false), (2, 100, false), (3, 100, false)] := by kernel_rfl
theorem fmtBr (w : World) : (FmtDoors.printed ⟨#[37, 115, 58, 32, 37, 100, 32, 105, 115, 32, 111, 117, 116, 115, 105, 100, 101, 32, 37, 100, 46, 46, 37, 100]⟩ 4).run Tryf.prog w = .ok [(0, 115, false), (1, 100, false), (2, 100, false), (3, 100, false)] w := by kernel_rfl
def shape9 : List UInt8 := [12, 6, 0, 0, 0, 0, 0, 0, 0, 115, 116, 114, 105, 110, 103]
def shape3 : List UInt8 := [5, 3, 0, 0, 0, 0, 0, 0, 0, 105, 110, 116]
theorem op9_115 (name : String) (x : ByteArray) (w : World) : (FmtStop.operand name true 115 false (.iface 9 (.string x))).run Tryf.prog w = .ok (shape9, FmtStop.pack x.data.toList) w := by kernel_rfl
theorem op3_100 (name : String) (x : Int) (w : World) : (FmtStop.operand name true 100 false (.iface 3 (.int .i64 x))).run Tryf.prog w = .ok (shape3, Go.Extern.Stop.digits 8 (x % 2 ^ 64).toNat) w := by kernel_rfl
theorem ptr46 (w : World) : (FmtStop.ptrTo "errors.errorString").run Tryf.prog w = .ok 46 w := by kernel_rfl
theorem elem46 (w : World) : (elemOf 46).run Tryf.prog w = .ok 48 w := by kernel_rfl
theorem isError46 (w : World) : (FmtDoors.textMethod 46 "Error").run Tryf.prog w = .ok true w := by kernel_rfl
attribute [local go_sem] call17 guard fmtA fmtAr fmtB fmtBr op9_115 op3_100 ptr46 elem46 isError46

set_option maxHeartbeats 400000 in
theorem errA (what : ByteArray) (x y z : Int) (g : Nat) (w : World) (hg : g < w.heap.size)
    (c0 : w.cell? ⟨g, 0, none⟩ = some (.iface 9 (.string what))) (c1 : w.cell? ⟨g, 1, none⟩ = some (.iface 3 (.int .i64 x))) (c2 : w.cell? ⟨g, 2, none⟩ = some (.iface 3 (.int .i64 y))) (c3 : w.cell? ⟨g, 3, none⟩ = some (.iface 3 (.int .i64 z))) :
    Calls Tryf.prog 14 #[.string ⟨#[101, 120, 112, 101, 99, 116, 101, 100, 32, 37, 115, 58, 32, 37, 100, 32, 116, 111, 32, 37, 100, 44, 32, 105, 110, 32, 97, 116, 32, 109, 111, 115, 116, 32, 37, 100, 32, 100, 105, 103, 105, 116, 115]⟩, .slice (some ⟨g, 0, none⟩) 4 4] w fun e w' => ∃ a, e = .returned (.iface 46 (.pointer (some a))) ∧ Below w.heap.size w w' := by
  go_enter Tryf.func14, Tryf.ntmps14
  go_wp2
  go_ret
  exact ⟨_, rfl, ((Below.refl _ _).alloc (Nat.le_refl _) _).drew⟩

set_option maxHeartbeats 400000 in
theorem errB (what : ByteArray) (x y z : Int) (g : Nat) (w : World) (hg : g < w.heap.size)
    (c0 : w.cell? ⟨g, 0, none⟩ = some (.iface 9 (.string what))) (c1 : w.cell? ⟨g, 1, none⟩ = some (.iface 3 (.int .i64 x))) (c2 : w.cell? ⟨g, 2, none⟩ = some (.iface 3 (.int .i64 y))) (c3 : w.cell? ⟨g, 3, none⟩ = some (.iface 3 (.int .i64 z))) :
    Calls Tryf.prog 14 #[.string ⟨#[37, 115, 58, 32, 37, 100, 32, 105, 115, 32, 111, 117, 116, 115, 105, 100, 101, 32, 37, 100, 46, 46, 37, 100]⟩, .slice (some ⟨g, 0, none⟩) 4 4] w fun e w' => ∃ a, e = .returned (.iface 46 (.pointer (some a))) ∧ Below w.heap.size w w' := by
  go_enter Tryf.func14, Tryf.ntmps14
  go_wp2
  go_ret
  exact ⟨_, rfl, ((Below.refl _ _).alloc (Nat.le_refl _) _).drew⟩
end Go.Proofs.Qxb6609012aFmt
