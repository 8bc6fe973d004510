import Derived.Test.Qxb6609217aFmtIxB
import Derived.Stop.CallBack
import Derived.Stop.IfaceNil
namespace Go.Proofs.Qxb6609217aFmt
open Go.RowKit Go.Extern.Stop Go.Stop Go.Extern

/-- The format of newAddrIndex's error. -/
def ovFmt : ByteArray := ⟨#[111, 98, 106, 101, 99, 116, 32, 97, 116, 32, 37, 35, 120, 32, 111, 118, 101, 114, 108, 97, 112, 115, 32, 116, 104, 101, 32, 111, 98, 106, 101, 99, 116, 32, 97, 116, 32, 37, 35, 120]⟩

theorem fcall44 (args : Array Value) (w : World) : (callFunc 44 args).run Tryf.prog w = ((FmtStop.errorf #[9, 99] #[42] args).run Tryf.prog w).andThen fun v w' => .ok (.value v) w' :=
  run_callFunc_extern Tryf.func44 (by kernel_rfl) (by kernel_rfl) (by kernel_rfl) (by kernel_rfl) args w
theorem fguard (name : String) (w : World) : (FmtStop.guard name).run Tryf.prog w = .ok () w := by kernel_rfl
theorem fprinted (w : World) : (FmtDoors.printed ⟨#[111, 98, 106, 101, 99, 116, 32, 97, 116, 32, 37, 35, 120, 32, 111, 118, 101, 114, 108, 97, 112, 115, 32, 116, 104, 101, 32, 111, 98, 106, 101, 99, 116, 32, 97, 116, 32, 37, 35, 120]⟩ 2).run Tryf.prog w = .ok [(0, 120, true), (1, 120, true)] w := by kernel_rfl
def fshape27 : List UInt8 := [9, 6, 0, 0, 0, 0, 0, 0, 0, 117, 105, 110, 116, 54, 52]
theorem fop27 (name : String) (x : Int) (w : World) : (FmtStop.operand name true 120 true (.iface 27 (.int .u64 x))).run Tryf.prog w = .ok (fshape27, Go.Extern.Stop.digits 8 (x % 2 ^ 64).toNat) w := by kernel_rfl
theorem fptr (w : World) : (FmtStop.ptrTo "errors.errorString").run Tryf.prog w = .ok 111 w := by kernel_rfl
theorem felem (w : World) : (elemOf 111).run Tryf.prog w = .ok 113 w := by kernel_rfl

/-- Some error that is not nil. -/
def SomeErr (e : Ending) : Prop := ∃ t v, e = .returned (.iface t v)

set_option maxHeartbeats 800000 in
theorem errorf_any (b : Nat) (x y : Int) (w : World) (h0 : w.cell? ⟨b, 0, none⟩ = some (.iface 27 (.int .u64 x))) (h1 : w.cell? ⟨b, 1, none⟩ = some (.iface 27 (.int .u64 y))) :
    Calls Tryf.prog 37 #[.string ovFmt, .slice (some ⟨b, 0, none⟩) 2 2] w fun e w' => SomeErr e ∧ Keeps (fun _ => False) w w' := by
  unfold ovFmt
  have a1 := fcall44
  have a2 := fguard
  have a3 := fprinted
  have a4 := fop27
  have a5 := fptr
  have a6 := felem
  go_enter Tryf.func37, Tryf.ntmps37
  go_wp2
  go_ret
  exact ⟨⟨_, _, rfl⟩, ((Keeps.refl _ w).alloc _).drew⟩
end Go.Proofs.Qxb6609217aFmt
