/- The closed facts for a walk over fmt's stopped front, and the contracts of fmt.Errorf at the two formats of this road. -/
import Derived.Test.Qxb6630431aFmtLeaf
import Derived.Stop.CallBack
import Derived.Stop.IfaceNil
import GoSem.ClaimData
namespace Go.Proofs.Qxb6630431aFmt.Dates
open Go.RowKit Go.Extern.Stop Go.Stop Go.Extern
set_option linter.unusedVariables false

theorem call23 (args : Array Value) (w : World) : (callFunc 23 args).run Tryf.prog w = ((FmtStop.errorf #[9, 49] #[28] args).run Tryf.prog w).andThen fun v w' => .ok (.value v) w' :=
  run_callFunc_extern Tryf.func23 (by kernel_rfl) (by kernel_rfl) (by kernel_rfl) (by kernel_rfl) args w
theorem guard0 (name : String) (w : World) : (FmtStop.guard name).run Tryf.prog w = .ok () w := by kernel_rfl
theorem fmtA : FmtStop.printed? ⟨#[37, 113, 32, 105, 115, 32, 110, 111, 116, 32, 97, 32, 100, 97, 121, 32, 102, 114, 111, 109, 32, 49, 57, 48, 48, 45, 48, 49, 45, 48, 49, 32, 116, 111, 32, 50, 49, 57, 57, 45, 49, 50, 45, 51, 49, 32, 119, 114, 105, 116, 116, 101, 110, 32, 89, 89, 89, 89, 45, 77, 77, 45, 68, 68]⟩ 1 = some [(0, 113, false)] := by kernel_rfl
theorem fmtAr (w : World) : (FmtDoors.printed ⟨#[37, 113, 32, 105, 115, 32, 110, 111, 116, 32, 97, 32, 100, 97, 121, 32, 102, 114, 111, 109, 32, 49, 57, 48, 48, 45, 48, 49, 45, 48, 49, 32, 116, 111, 32, 50, 49, 57, 57, 45, 49, 50, 45, 51, 49, 32, 119, 114, 105, 116, 116, 101, 110, 32, 89, 89, 89, 89, 45, 77, 77, 45, 68, 68]⟩ 1).run Tryf.prog w = .ok [(0, 113, false)] w := by kernel_rfl
theorem fmtB : FmtStop.printed? ⟨#[114, 105, 107, 105, 110, 46, 68, 97, 116, 101, 58, 32, 37, 119]⟩ 1 = some [(0, 119, false)] := by kernel_rfl
theorem fmtBr (w : World) : (FmtDoors.printed ⟨#[114, 105, 107, 105, 110, 46, 68, 97, 116, 101, 58, 32, 37, 119]⟩ 1).run Tryf.prog w = .ok [(0, 119, false)] w := by kernel_rfl
def shape9 : List UInt8 := [12, 6, 0, 0, 0, 0, 0, 0, 0, 115, 116, 114, 105, 110, 103]
theorem op9_113 (name : String) (x : ByteArray) (w : World) : (FmtStop.operand name false 113 false (.iface 9 (.string x))).run Tryf.prog w = .ok (shape9, FmtStop.pack x.data.toList) w := by kernel_rfl
theorem op9_113w (name : String) (x : ByteArray) (w : World) : (FmtStop.operand name true 113 false (.iface 9 (.string x))).run Tryf.prog w = .ok (shape9, FmtStop.pack x.data.toList) w := by kernel_rfl
theorem strict9 (name : String) (x : ByteArray) (w : World) : (FmtStop.strict name (.iface 9 (.string x))).run Tryf.prog w = .ok (shape9, FmtStop.pack x.data.toList) w := by kernel_rfl
theorem ptr56 (w : World) : (FmtStop.ptrTo "errors.errorString").run Tryf.prog w = .ok 56 w := by kernel_rfl
theorem elem56 (w : World) : (elemOf 56).run Tryf.prog w = .ok 58 w := by kernel_rfl
theorem isError56 (w : World) : (FmtDoors.textMethod 56 "Error").run Tryf.prog w = .ok true w := by kernel_rfl
theorem opPlain56_119w (name : String) (a : Addr) (s : ByteArray) (w : World) (hc : w.cell? a = some (.string s)) :
    (FmtStop.operand name true 119 false (.iface 56 (.pointer (some a)))).run Tryf.prog w = .ok (14 :: FmtStop.pack Tryf.t56.str.toUTF8.data.toList, s.data.toList) w := by
  have h1 : (typeStr 56).run Tryf.prog w = .ok Tryf.t56.str w := by kernel_rfl
  have d2 : Tryf.t56.desc = .pointer 58 := rfl
  have d3 : Tryf.t58.desc = .named "errors.errorString" 57 := rfl
  simp [FmtStop.operand, h1, d2, d3, run_load, hc]
theorem ptr51 (w : World) : (FmtStop.ptrTo "fmt.wrapError").run Tryf.prog w = .ok 51 w := by kernel_rfl
theorem elem51 (w : World) : (elemOf 51).run Tryf.prog w = .ok 76 w := by kernel_rfl
theorem isError51 (w : World) : (FmtDoors.textMethod 51 "Error").run Tryf.prog w = .ok true w := by kernel_rfl
attribute [local go_sem] call23 guard0 fmtA fmtAr fmtB fmtBr op9_113 op9_113w strict9 ptr56 elem56 isError56 ptr51 elem51 isError51

set_option maxHeartbeats 1000000 in
theorem errorfA (F : Stop.Interp) (s : ByteArray) (g : Nat) (w : World) (hF : F.answers w.tape) (hc : w.cell? ⟨g, 0, none⟩ = some (.iface 9 (.string s))) :
    Calls Tryf.prog 16 #[.string ⟨#[37, 113, 32, 105, 115, 32, 110, 111, 116, 32, 97, 32, 100, 97, 121, 32, 102, 114, 111, 109, 32, 49, 57, 48, 48, 45, 48, 49, 45, 48, 49, 32, 116, 111, 32, 50, 49, 57, 57, 45, 49, 50, 45, 51, 49, 32, 119, 114, 105, 116, 116, 101, 110, 32, 89, 89, 89, 89, 45, 77, 77, 45, 68, 68]⟩, .slice (some ⟨g, 0, none⟩) 1 1] w fun e w' => ∃ T : ByteArray, e = .returned (.iface 56 (.pointer (some ⟨w.heap.size, 0, none⟩))) ∧ (w.alloc (.cells #[.string T] 58)).drew = w' := by
  have hF' := answers_open hF
  go_enter Tryf.func16, Tryf.ntmps16
  go_wp2
  go_ret
  exact ⟨_, rfl, rfl⟩

set_option maxHeartbeats 1000000 in
theorem errorfB (F : Stop.Interp) (a : Addr) (T0 : ByteArray) (g : Nat) (w : World) (hF : F.answers w.tape) (hc : w.cell? ⟨g, 0, none⟩ = some (.iface 56 (.pointer (some a)))) (hT : w.cell? a = some (.string T0)) :
    Calls Tryf.prog 16 #[.string ⟨#[114, 105, 107, 105, 110, 46, 68, 97, 116, 101, 58, 32, 37, 119]⟩, .slice (some ⟨g, 0, none⟩) 1 1] w fun e w' => ∃ T : ByteArray, e = .returned (.iface 51 (.pointer (some ⟨w.heap.size, 0, none⟩))) ∧ (w.alloc (.cells #[.string T, .iface 56 (.pointer (some a))] 76)).drew = w' := by
  have hF' := answers_open hF
  have hop := opPlain56_119w "fmt.errorf" a T0 w hT
  go_enter Tryf.func16, Tryf.ntmps16
  go_wp2
  go_ret
  exact ⟨_, rfl, rfl⟩

end Go.Proofs.Qxb6630431aFmt.Dates
