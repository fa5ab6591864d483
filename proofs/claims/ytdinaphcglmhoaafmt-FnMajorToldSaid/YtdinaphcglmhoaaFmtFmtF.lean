/-
  fmt.Errorf at the one format of module.CheckPathMajor: closed facts (after the pattern of the kit's check example) and the contract: some error comes back.
-/
import Derived.Test.YtdinaphcglmhoaaFmtProg
import Derived.Test.YtdinaphcglmhoaaFmtFrame
import Derived.Stop.CallBack
import Derived.Stop.IfaceNil
import Derived.WalkSpells
import Derived.Lib.Hide
import GoSem.ClaimData
namespace Go.Proofs
open Go.Extern.Stop Go.Stop Go.Extern

@[go_sem] theorem Tryf.callErrf (args : Array Value) (w : World) : (callFunc 27 args).run Tryf.prog w = ((FmtStop.errorf #[9, 48] #[27] args).run Tryf.prog w).andThen fun v w' => .ok (.value v) w' :=
  run_callFunc_extern Tryf.func27 (by kernel_rfl) (by kernel_rfl) (by kernel_rfl) (by kernel_rfl) args w
@[go_sem] theorem Tryf.guard (name : String) (w : World) : (FmtStop.guard name).run Tryf.prog w = .ok () w := by kernel_rfl
@[go_sem] theorem Tryf.fmt0 : FmtStop.printed? ⟨#[115, 104, 111, 117, 108, 100, 32, 98, 101, 32, 37, 115, 44, 32, 110, 111, 116, 32, 37, 115]⟩ 2 = some [(0, 115, false), (1, 115, false)] := by kernel_rfl
@[go_sem] theorem Tryf.fmt0r (w : World) : (FmtDoors.printed ⟨#[115, 104, 111, 117, 108, 100, 32, 98, 101, 32, 37, 115, 44, 32, 110, 111, 116, 32, 37, 115]⟩ 2).run Tryf.prog w = .ok [(0, 115, false), (1, 115, false)] w := by kernel_rfl
def Tryf.shape9 : List UInt8 := [12, 6, 0, 0, 0, 0, 0, 0, 0, 115, 116, 114, 105, 110, 103]
@[go_sem] theorem Tryf.op9_115 (name : String) (x : ByteArray) (w : World) : (FmtStop.operand name false 115 false (.iface 9 (.string x))).run Tryf.prog w = .ok (Tryf.shape9, FmtStop.pack x.data.toList) w := by kernel_rfl
@[go_sem] theorem Tryf.op9_115w (name : String) (x : ByteArray) (w : World) : (FmtStop.operand name true 115 false (.iface 9 (.string x))).run Tryf.prog w = .ok (Tryf.shape9, FmtStop.pack x.data.toList) w := by kernel_rfl
@[go_sem] theorem Tryf.strict9 (name : String) (x : ByteArray) (w : World) : (FmtStop.strict name (.iface 9 (.string x))).run Tryf.prog w = .ok (Tryf.shape9, FmtStop.pack x.data.toList) w := by kernel_rfl
@[go_sem] theorem Tryf.ptrE (w : World) : (FmtStop.ptrTo "errors.errorString").run Tryf.prog w = .ok 54 w := by kernel_rfl
@[go_sem] theorem Tryf.elemE (w : World) : (elemOf 54).run Tryf.prog w = .ok 56 w := by kernel_rfl
@[go_sem] theorem Tryf.isErrorE' (w : World) : (FmtDoors.textMethod 54 "Error").run Tryf.prog w = .ok true w := by kernel_rfl
end Go.Proofs
namespace Go.Proofs.YtdinaphcglmhoaaFmt
open Go.RowKit Go.Extern.Stop Go.Stop Go.Extern

/-- some error -/
def SomeErr (w : World) (e : Ending) (w' : World) : Prop := (∃ (t : TypeId) (v : Value), e = .returned (.iface t v)) ∧ Below w.heap.size w w'

set_option maxHeartbeats 1000000 in
theorem errorf_any (F : Interp) (a b : ByteArray) (blk : Nat) (w : World) (hF : F.answers w.tape)
    (hc0 : w.cell? ⟨blk, 0, none⟩ = some (.iface 9 (.string a))) (hc1 : w.cell? ⟨blk, 1, none⟩ = some (.iface 9 (.string b))) :
    Calls Tryf.prog 19 #[.string ⟨#[115, 104, 111, 117, 108, 100, 32, 98, 101, 32, 37, 115, 44, 32, 110, 111, 116, 32, 37, 115]⟩, .slice (some ⟨blk, 0, none⟩) 2 2] w (SomeErr w) := by
  have hF' := answers_open hF
  go_enter Tryf.func19, Tryf.ntmps19
  go_wp2
  go_ret
  exact ⟨⟨_, _, rfl⟩, ((Below.refl _ _).alloc (Nat.le_refl _) _).drew⟩
end Go.Proofs.YtdinaphcglmhoaaFmt
