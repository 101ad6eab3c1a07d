/-
  YbulkbppmFmtFmt: the closed facts for a walk over fmt's stopped front in this dump: after the kit's Derived/Test/CheckFmt.lean and GuardFmt.lean, turned to this program by hand.
-/
import Derived.Test.YbulkbppmFmtProg
import Derived.Stop.CallBack
import Derived.Stop.IfaceNil
import GoSem.ClaimData
namespace Go.Proofs
open Go.Extern.Stop Go.Stop Go.Extern

@[go_sem] theorem Ybaf.call12 (args : Array Value) (w : World) : (callFunc 12 args).run Ybaf.prog w = ((FmtStop.errorf #[9, 44] #[26] args).run Ybaf.prog w).andThen fun v w' => .ok (.value v) w' :=
  run_callFunc_extern Ybaf.func12 (by kernel_rfl) (by kernel_rfl) (by kernel_rfl) (by kernel_rfl) args w

@[go_sem] theorem Ybaf.guard (name : String) (w : World) : (FmtStop.guard name).run Ybaf.prog w = .ok () w := by kernel_rfl

@[go_sem] theorem Ybaf.fmt0_1 : FmtStop.printed? ⟨#[37, 100, 32, 105, 115, 32, 110, 111, 116, 32, 97, 32, 107, 105, 110, 100, 32, 111, 102, 32, 119, 114, 97, 112, 112, 105, 110, 103, 32, 111, 102, 32, 116, 104, 101, 32, 118, 49, 32, 102, 111, 114, 109, 97, 116]⟩ 1 = some [(0, 100, false)] := by kernel_rfl
@[go_sem] theorem Ybaf.fmt0_1r (w : World) : (FmtDoors.printed ⟨#[37, 100, 32, 105, 115, 32, 110, 111, 116, 32, 97, 32, 107, 105, 110, 100, 32, 111, 102, 32, 119, 114, 97, 112, 112, 105, 110, 103, 32, 111, 102, 32, 116, 104, 101, 32, 118, 49, 32, 102, 111, 114, 109, 97, 116]⟩ 1).run Ybaf.prog w = .ok [(0, 100, false)] w := by kernel_rfl
@[go_sem] theorem Ybaf.fmt0_0 : FmtStop.printed? ⟨#[37, 100, 32, 105, 115, 32, 110, 111, 116, 32, 97, 32, 107, 105, 110, 100, 32, 111, 102, 32, 119, 114, 97, 112, 112, 105, 110, 103, 32, 111, 102, 32, 116, 104, 101, 32, 118, 49, 32, 102, 111, 114, 109, 97, 116]⟩ 0 = some [] := by kernel_rfl
@[go_sem] theorem Ybaf.fmt0_0r (w : World) : (FmtDoors.printed ⟨#[37, 100, 32, 105, 115, 32, 110, 111, 116, 32, 97, 32, 107, 105, 110, 100, 32, 111, 102, 32, 119, 114, 97, 112, 112, 105, 110, 103, 32, 111, 102, 32, 116, 104, 101, 32, 118, 49, 32, 102, 111, 114, 109, 97, 116]⟩ 0).run Ybaf.prog w = .ok [] w := by kernel_rfl
@[go_sem] theorem Ybaf.fmt1_1 : FmtStop.printed? ⟨#[97, 32, 119, 114, 97, 112, 32, 102, 117, 110, 99, 116, 105, 111, 110, 32, 99, 97, 110, 110, 111, 116, 32, 119, 114, 97, 112, 32, 119, 105, 116, 104, 32, 107, 105, 110, 100, 32, 37, 100, 58, 32, 105, 116, 115, 32, 115, 116, 97, 110, 122, 97, 32, 99, 97, 114, 114, 105, 101, 115, 32, 97, 110, 32, 101, 112, 104, 101, 109, 101, 114, 97, 108, 32, 107, 101, 121, 32, 116, 111, 111]⟩ 1 = some [(0, 100, false)] := by kernel_rfl
@[go_sem] theorem Ybaf.fmt1_1r (w : World) : (FmtDoors.printed ⟨#[97, 32, 119, 114, 97, 112, 32, 102, 117, 110, 99, 116, 105, 111, 110, 32, 99, 97, 110, 110, 111, 116, 32, 119, 114, 97, 112, 32, 119, 105, 116, 104, 32, 107, 105, 110, 100, 32, 37, 100, 58, 32, 105, 116, 115, 32, 115, 116, 97, 110, 122, 97, 32, 99, 97, 114, 114, 105, 101, 115, 32, 97, 110, 32, 101, 112, 104, 101, 109, 101, 114, 97, 108, 32, 107, 101, 121, 32, 116, 111, 111]⟩ 1).run Ybaf.prog w = .ok [(0, 100, false)] w := by kernel_rfl
@[go_sem] theorem Ybaf.fmt1_0 : FmtStop.printed? ⟨#[97, 32, 119, 114, 97, 112, 32, 102, 117, 110, 99, 116, 105, 111, 110, 32, 99, 97, 110, 110, 111, 116, 32, 119, 114, 97, 112, 32, 119, 105, 116, 104, 32, 107, 105, 110, 100, 32, 37, 100, 58, 32, 105, 116, 115, 32, 115, 116, 97, 110, 122, 97, 32, 99, 97, 114, 114, 105, 101, 115, 32, 97, 110, 32, 101, 112, 104, 101, 109, 101, 114, 97, 108, 32, 107, 101, 121, 32, 116, 111, 111]⟩ 0 = some [] := by kernel_rfl
@[go_sem] theorem Ybaf.fmt1_0r (w : World) : (FmtDoors.printed ⟨#[97, 32, 119, 114, 97, 112, 32, 102, 117, 110, 99, 116, 105, 111, 110, 32, 99, 97, 110, 110, 111, 116, 32, 119, 114, 97, 112, 32, 119, 105, 116, 104, 32, 107, 105, 110, 100, 32, 37, 100, 58, 32, 105, 116, 115, 32, 115, 116, 97, 110, 122, 97, 32, 99, 97, 114, 114, 105, 101, 115, 32, 97, 110, 32, 101, 112, 104, 101, 109, 101, 114, 97, 108, 32, 107, 101, 121, 32, 116, 111, 111]⟩ 0).run Ybaf.prog w = .ok [] w := by kernel_rfl
@[go_sem] theorem Ybaf.fmt2_1 : FmtStop.printed? ⟨#[115, 101, 97, 108, 101, 100, 115, 116, 114, 101, 97, 109, 58, 32, 37, 119]⟩ 1 = some [(0, 119, false)] := by kernel_rfl
@[go_sem] theorem Ybaf.fmt2_1r (w : World) : (FmtDoors.printed ⟨#[115, 101, 97, 108, 101, 100, 115, 116, 114, 101, 97, 109, 58, 32, 37, 119]⟩ 1).run Ybaf.prog w = .ok [(0, 119, false)] w := by kernel_rfl
@[go_sem] theorem Ybaf.fmt2_0 : FmtStop.printed? ⟨#[115, 101, 97, 108, 101, 100, 115, 116, 114, 101, 97, 109, 58, 32, 37, 119]⟩ 0 = some [] := by kernel_rfl
@[go_sem] theorem Ybaf.fmt2_0r (w : World) : (FmtDoors.printed ⟨#[115, 101, 97, 108, 101, 100, 115, 116, 114, 101, 97, 109, 58, 32, 37, 119]⟩ 0).run Ybaf.prog w = .ok [] w := by kernel_rfl

def Ybaf.shape23 : List UInt8 := [5, 21, 0, 0, 0, 0, 0, 0, 0, 115, 101, 97, 108, 101, 100, 115, 116, 114, 101, 97, 109, 46, 87, 114, 97, 112, 75, 105, 110, 100]
@[go_sem] theorem Ybaf.op23_100w (name : String) (x : Int) (w : World) : (FmtStop.operand name true 100 false (.iface 23 (.int .i64 x))).run Ybaf.prog w = .ok (Ybaf.shape23, Go.Extern.Stop.digits 8 (x % 2 ^ 64).toNat) w := by kernel_rfl
@[go_sem] theorem Ybaf.ptr46 (w : World) : (FmtStop.ptrTo "errors.errorString").run Ybaf.prog w = .ok 46 w := by kernel_rfl
@[go_sem] theorem Ybaf.elem46 (w : World) : (elemOf 46).run Ybaf.prog w = .ok 48 w := by kernel_rfl
@[go_sem] theorem Ybaf.isError46' (w : World) : (FmtDoors.textMethod 46 "Error").run Ybaf.prog w = .ok true w := by kernel_rfl
theorem Ybaf.name46 : Ybaf.prog.typeName? 3 46 = some "*errors.errorString" := by kernel_rfl
def Ybaf.plain46 : List UInt8 := 14 :: FmtStop.pack "*errors.errorString".toUTF8.data.toList
@[go_sem] theorem Ybaf.ptr45 (w : World) : (FmtStop.ptrTo "fmt.wrapError").run Ybaf.prog w = .ok 45 w := by kernel_rfl
@[go_sem] theorem Ybaf.elem45 (w : World) : (elemOf 45).run Ybaf.prog w = .ok 67 w := by kernel_rfl
@[go_sem] theorem Ybaf.isError45' (w : World) : (FmtDoors.textMethod 45 "Error").run Ybaf.prog w = .ok true w := by kernel_rfl
theorem Ybaf.name45 : Ybaf.prog.typeName? 3 45 = some "*fmt.wrapError" := by kernel_rfl
theorem Ybaf.opPlain46_119w (name : String) (a : Addr) (s : ByteArray) (w : World) (hc : w.cell? a = some (.string s)) :
    (FmtStop.operand name true 119 false (.iface 46 (.pointer (some a)))).run Ybaf.prog w = .ok (Ybaf.plain46, s.data.toList) w := by
  have h1 : (typeStr 46).run Ybaf.prog w = .ok "*errors.errorString" w := by kernel_rfl
  have d2 : Ybaf.t46.desc = .pointer 48 := rfl
  have d3 : Ybaf.t48.desc = .named "errors.errorString" 47 := rfl
  simp [FmtStop.operand, h1, d2, d3, run_load, hc, Ybaf.plain46]
end Go.Proofs
