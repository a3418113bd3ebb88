import Derived.Test.Qxb6614376aFmtCopy
import Derived.Stop.CallBack
import Derived.Stop.IfaceNil
import Derived.Stop.FmtLaws
import Derived.Stop.Texts
namespace Go.Proofs.Qxb6614376aFmt
open Go.RowKit Go.Extern.Stop Go.Stop Go.Extern

/-! fmt.errorf, the stop: the closed facts for the walk (what a kit over fmt prints for other programs). -/
theorem e_call16 (args : Array Value) (w : World) : (callFunc 16 args).run Tryf.prog w = ((FmtStop.errorf #[9, 36] #[25] args).run Tryf.prog w).andThen fun v w' => .ok (.value v) w' :=
  run_callFunc_extern Tryf.func16 (by kernel_rfl) (by kernel_rfl) (by kernel_rfl) (by kernel_rfl) args w
theorem e_guard (name : String) (w : World) : (FmtStop.guard name).run Tryf.prog w = .ok () w := by kernel_rfl
theorem e_fmt : FmtStop.printed? ⟨#[99, 108, 97, 105, 109, 32, 97, 117, 100, 91, 37, 100, 93, 32, 105, 115, 32, 110, 111, 116, 32, 97, 32, 115, 116, 114, 105, 110, 103]⟩ 1 = some [(0, 100, false)] := by kernel_rfl
theorem e_fmtr (w : World) : (FmtDoors.printed ⟨#[99, 108, 97, 105, 109, 32, 97, 117, 100, 91, 37, 100, 93, 32, 105, 115, 32, 110, 111, 116, 32, 97, 32, 115, 116, 114, 105, 110, 103]⟩ 1).run Tryf.prog w = .ok [(0, 100, false)] w := by kernel_rfl
def e_shape3 : List UInt8 := [5, 3, 0, 0, 0, 0, 0, 0, 0, 105, 110, 116]
theorem e_op3 (name : String) (x : Int) (w : World) : (FmtStop.operand name true 100 false (.iface 3 (.int .i64 x))).run Tryf.prog w = .ok (e_shape3, Go.Extern.Stop.digits 8 (x % 2 ^ 64).toNat) w := by kernel_rfl
theorem e_ptr (w : World) : (FmtStop.ptrTo "errors.errorString").run Tryf.prog w = .ok 41 w := by kernel_rfl
theorem e_elem (w : World) : (elemOf 41).run Tryf.prog w = .ok 43 w := by kernel_rfl
theorem e_isError (w : World) : (FmtDoors.textMethod 41 "Error").run Tryf.prog w = .ok true w := by kernel_rfl
attribute [local go_sem] e_call16 e_guard e_fmt e_fmtr e_op3 e_ptr e_elem e_isError

/-- It hands back no slice and an error. -/
def Refuses (w w' : World) (e : Ending) : Prop := ∃ a, e = .returned (.tuple #[.slice none 0 0, .iface 41 (.pointer (some a))]) ∧ Below w.heap.size w w'

set_option maxRecDepth 100000 in
set_option maxHeartbeats 400000 in
theorem errorf_any (F : Interp) (x : Int) (g : Nat) (w : World) (hF : F.answers w.tape) (hc : w.cell? ⟨g, 0, none⟩ = some (.iface 3 (.int .i64 x))) :
    Calls Tryf.prog 14 #[.string ⟨#[99, 108, 97, 105, 109, 32, 97, 117, 100, 91, 37, 100, 93, 32, 105, 115, 32, 110, 111, 116, 32, 97, 32, 115, 116, 114, 105, 110, 103]⟩, .slice (some ⟨g, 0, none⟩) 1 1] w
      fun e w' => e = .returned (.iface 41 (.pointer (some ⟨w.heap.size, 0, none⟩))) ∧ Below w.heap.size w w' := by
  have hF' := answers_open hF
  go_enter Tryf.func14, Tryf.ntmps14
  go_wp2
  go_ret
  exact ⟨rfl, ((Below.refl _ w).alloc (Nat.le_refl _) _).drew⟩
end Go.Proofs.Qxb6614376aFmt
