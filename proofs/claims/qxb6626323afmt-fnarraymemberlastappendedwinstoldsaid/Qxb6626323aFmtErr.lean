/-
  fmt's stop in this program, and MemberMissing (function 15): the error that it answers is not nil.
-/
import Derived.Test.Qxb6626323aFmtToV
import Derived.Stop.CallBack
import Derived.Stop.IfaceNil
import Derived.WalkSpells
import GoSem.ClaimData
namespace Go.Proofs.Qxb6626323aFmt
open Go.RowKit Go.Extern.Stop Go.Stop Go.Extern

theorem Tryf.call18 (args : Array Value) (w : World) : (callFunc 18 args).run Tryf.prog w = ((FmtStop.errorf #[9, 50] #[33] args).run Tryf.prog w).andThen fun v w' => .ok (.value v) w' :=
  run_callFunc_extern Tryf.func18 (by kernel_rfl) (by kernel_rfl) (by kernel_rfl) (by kernel_rfl) args w
theorem Tryf.guard (name : String) (w : World) : (FmtStop.guard name).run Tryf.prog w = .ok () w := by kernel_rfl

-- the format of MemberMissing
theorem Tryf.fmt0 : FmtStop.printed? ⟨#[109, 101, 109, 98, 101, 114, 32, 37, 115, 32, 109, 105, 115, 115, 105, 110, 103]⟩ 1 = some [(0, 115, false)] := by kernel_rfl
theorem Tryf.fmt0r (w : World) : (FmtDoors.printed ⟨#[109, 101, 109, 98, 101, 114, 32, 37, 115, 32, 109, 105, 115, 115, 105, 110, 103]⟩ 1).run Tryf.prog w = .ok [(0, 115, false)] w := by kernel_rfl
-- the format of ArrayMember
theorem Tryf.fmt1 : FmtStop.printed? ⟨#[37, 115, 32, 105, 115, 32, 110, 111, 116, 32, 97, 110, 32, 97, 114, 114, 97, 121]⟩ 1 = some [(0, 115, false)] := by kernel_rfl
theorem Tryf.fmt1r (w : World) : (FmtDoors.printed ⟨#[37, 115, 32, 105, 115, 32, 110, 111, 116, 32, 97, 110, 32, 97, 114, 114, 97, 121]⟩ 1).run Tryf.prog w = .ok [(0, 115, false)] w := by kernel_rfl
-- the operand: a string
def Tryf.shape9 : List UInt8 := [12, 6, 0, 0, 0, 0, 0, 0, 0, 115, 116, 114, 105, 110, 103]
theorem Tryf.op9_115w (name : String) (x : ByteArray) (w : World) : (FmtStop.operand name true 115 false (.iface 9 (.string x))).run Tryf.prog w = .ok (Tryf.shape9, FmtStop.pack x.data.toList) w := by kernel_rfl
theorem Tryf.op9_115 (name : String) (x : ByteArray) (w : World) : (FmtStop.operand name false 115 false (.iface 9 (.string x))).run Tryf.prog w = .ok (Tryf.shape9, FmtStop.pack x.data.toList) w := by kernel_rfl
-- the error that fmt.errorf makes
theorem Tryf.ptr52 (w : World) : (FmtStop.ptrTo "errors.errorString").run Tryf.prog w = .ok 52 w := by kernel_rfl
theorem Tryf.elem52 (w : World) : (elemOf 52).run Tryf.prog w = .ok 54 w := by kernel_rfl

attribute [local go_sem] Tryf.call18 Tryf.guard Tryf.fmt0 Tryf.fmt0r Tryf.fmt1 Tryf.fmt1r Tryf.op9_115w Tryf.op9_115 Tryf.ptr52 Tryf.elem52

/-- An error that is not nil; memory grows, nothing that was there turns. -/
def ErrPost (w w' : World) (e : Ending) : Prop := ∃ a : Addr, e = .returned (.iface 52 (.pointer (some a))) ∧ Below w.heap.size w w'

theorem missing_any (F : Interp) (nm : ByteArray) (w : World) (hF : F.answers w.tape) : Calls Tryf.prog 15 #[.string nm] w fun e w' => ErrPost w w' e := by
  have hF' := answers_open hF
  go_enter Tryf.func15, Tryf.ntmps15
  go_wp2
  go_ret
  exact ⟨⟨w.heap.size + 1, 0, none⟩, rfl, (((Below.refl _ _).alloc (Nat.le_refl _) _).alloc (by simp) _).drew⟩
end Go.Proofs.Qxb6626323aFmt
