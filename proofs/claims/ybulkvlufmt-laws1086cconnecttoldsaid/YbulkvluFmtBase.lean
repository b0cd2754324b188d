import Derived.Test.YbulkvluFmtCards
import Derived.Test.YbulkvluFmtChecked
import Derived.WalkKit
import Derived.LaidEql
import Derived.Stop.Asserts
import Derived.Stop.CallBack
import Derived.Stop.IfaceNil
import Derived.RowKitTokens
import Derived.WalkSpells
import Derived.Conc.MuLone
import Derived.Conc.RwLib
import Derived.Conc.MuData
import Derived.KernelRfl
import GoSem.ClaimData
namespace Go.Proofs
open Go.Extern.Stop Go.Stop Go.Extern

/-! ### The lock's numbers -/
abbrev Ybaf.muLink : Go.Conc.Locks.MuLink := { lock := 15, unlock := 9, ilock := 25, iunlock := 20, lockSlow := 38, unlockSlow := 35, disable := 29, enable := 30, acquire := 32, relMerge := 33, cas32 := 31, add32 := 34, tMutex := 34, tIMutex := 32, tPMutex := 129, tPIMutex := 140, tPI32 := 142, tUP := 144, tNoCopy := 29, tU32 := 30 }
theorem Ybaf.muLib : Go.Conc.Locks.MuLib Ybaf.prog Ybaf.muLink :=
  ⟨Ybaf.func15, Ybaf.func9, Ybaf.func25, Ybaf.func20, Ybaf.func29, Ybaf.func30, Ybaf.func32, Ybaf.func33, Ybaf.func31, Ybaf.func34, Ybaf.underlying32, Ybaf.runUnderlying32, Ybaf.sizeOf32, Ybaf.isAgg32, Ybaf.zeroValue32, Ybaf.underlying34, Ybaf.runUnderlying34, Ybaf.sizeOf34, Ybaf.isAgg34, Ybaf.zeroValue34, Ybaf.underlying129, Ybaf.runUnderlying129, Ybaf.sizeOf129, Ybaf.isAgg129, Ybaf.zeroValue129, Ybaf.underlying140, Ybaf.runUnderlying140, Ybaf.sizeOf140, Ybaf.isAgg140, Ybaf.zeroValue140, Ybaf.underlying142, Ybaf.runUnderlying142, Ybaf.sizeOf142, Ybaf.isAgg142, Ybaf.zeroValue142, Ybaf.underlying144, Ybaf.runUnderlying144, Ybaf.sizeOf144, Ybaf.isAgg144, Ybaf.zeroValue144, Ybaf.underlying29, Ybaf.runUnderlying29, Ybaf.sizeOf29, Ybaf.isAgg29, Ybaf.zeroValue29, Ybaf.underlying21, Ybaf.runUnderlying21, Ybaf.sizeOf21, Ybaf.isAgg21, Ybaf.zeroValue21, (by kernel_rfl)⟩

/-! ### What the stop of fmt.errorf asks -/
@[go_sem] theorem Ybaf.call26 (args : Array Value) (w : World) : (callFunc 26 args).run Ybaf.prog w = ((FmtStop.errorf #[9, 135] #[52] args).run Ybaf.prog w).andThen fun v w' => .ok (.value v) w' :=
  run_callFunc_extern Ybaf.func26 (by kernel_rfl) (by kernel_rfl) (by kernel_rfl) (by kernel_rfl) args w
@[go_sem] theorem Ybaf.guard (name : String) (w : World) : (FmtStop.guard name).run Ybaf.prog w = .ok () w := by kernel_rfl
@[go_sem] theorem Ybaf.fmt0 : FmtStop.printed? ⟨#[114, 101, 115, 116, 111, 114, 105, 110, 103, 32, 116, 104, 101, 32, 109, 101, 115, 115, 97, 103, 101, 115, 32, 111, 102, 32, 37, 115, 32, 116, 111, 32, 105, 116, 115, 101, 108, 102, 58, 32, 37, 119, 58, 32, 37, 115]⟩ 3 = some [(0, 115, false), (1, 119, false), (2, 115, false)] := by kernel_rfl
@[go_sem] theorem Ybaf.fmt0r (w : World) : (FmtDoors.printed ⟨#[114, 101, 115, 116, 111, 114, 105, 110, 103, 32, 116, 104, 101, 32, 109, 101, 115, 115, 97, 103, 101, 115, 32, 111, 102, 32, 37, 115, 32, 116, 111, 32, 105, 116, 115, 101, 108, 102, 58, 32, 37, 119, 58, 32, 37, 115]⟩ 3).run Ybaf.prog w = .ok [(0, 115, false), (1, 119, false), (2, 115, false)] w := by kernel_rfl
@[go_sem] theorem Ybaf.fmt0z : FmtStop.printed? ⟨#[114, 101, 115, 116, 111, 114, 105, 110, 103, 32, 116, 104, 101, 32, 109, 101, 115, 115, 97, 103, 101, 115, 32, 111, 102, 32, 37, 115, 32, 116, 111, 32, 105, 116, 115, 101, 108, 102, 58, 32, 37, 119, 58, 32, 37, 115]⟩ 0 = some [] := by kernel_rfl
@[go_sem] theorem Ybaf.fmt0zr (w : World) : (FmtDoors.printed ⟨#[114, 101, 115, 116, 111, 114, 105, 110, 103, 32, 116, 104, 101, 32, 109, 101, 115, 115, 97, 103, 101, 115, 32, 111, 102, 32, 37, 115, 32, 116, 111, 32, 105, 116, 115, 101, 108, 102, 58, 32, 37, 119, 58, 32, 37, 115]⟩ 0).run Ybaf.prog w = .ok [] w := by kernel_rfl
@[go_sem] theorem Ybaf.fmt1 : FmtStop.printed? ⟨#[97, 100, 100, 105, 110, 103, 32, 99, 104, 97, 110, 110, 101, 108, 32, 37, 115, 32, 45, 62, 32, 37, 115, 58, 32, 37, 119]⟩ 3 = some [(0, 115, false), (1, 115, false), (2, 119, false)] := by kernel_rfl
@[go_sem] theorem Ybaf.fmt1r (w : World) : (FmtDoors.printed ⟨#[97, 100, 100, 105, 110, 103, 32, 99, 104, 97, 110, 110, 101, 108, 32, 37, 115, 32, 45, 62, 32, 37, 115, 58, 32, 37, 119]⟩ 3).run Ybaf.prog w = .ok [(0, 115, false), (1, 115, false), (2, 119, false)] w := by kernel_rfl
@[go_sem] theorem Ybaf.fmt1z : FmtStop.printed? ⟨#[97, 100, 100, 105, 110, 103, 32, 99, 104, 97, 110, 110, 101, 108, 32, 37, 115, 32, 45, 62, 32, 37, 115, 58, 32, 37, 119]⟩ 0 = some [] := by kernel_rfl
@[go_sem] theorem Ybaf.fmt1zr (w : World) : (FmtDoors.printed ⟨#[97, 100, 100, 105, 110, 103, 32, 99, 104, 97, 110, 110, 101, 108, 32, 37, 115, 32, 45, 62, 32, 37, 115, 58, 32, 37, 119]⟩ 0).run Ybaf.prog w = .ok [] w := by kernel_rfl
@[go_sem] theorem Ybaf.fmt2 : FmtStop.printed? ⟨#[37, 119, 58, 32, 37, 115, 32, 45, 62, 32, 37, 115, 32, 97, 100, 100, 101, 100, 32, 116, 119, 105, 99, 101]⟩ 3 = some [(0, 119, false), (1, 115, false), (2, 115, false)] := by kernel_rfl
@[go_sem] theorem Ybaf.fmt2r (w : World) : (FmtDoors.printed ⟨#[37, 119, 58, 32, 37, 115, 32, 45, 62, 32, 37, 115, 32, 97, 100, 100, 101, 100, 32, 116, 119, 105, 99, 101]⟩ 3).run Ybaf.prog w = .ok [(0, 119, false), (1, 115, false), (2, 115, false)] w := by kernel_rfl
@[go_sem] theorem Ybaf.fmt2z : FmtStop.printed? ⟨#[37, 119, 58, 32, 37, 115, 32, 45, 62, 32, 37, 115, 32, 97, 100, 100, 101, 100, 32, 116, 119, 105, 99, 101]⟩ 0 = some [] := by kernel_rfl
@[go_sem] theorem Ybaf.fmt2zr (w : World) : (FmtDoors.printed ⟨#[37, 119, 58, 32, 37, 115, 32, 45, 62, 32, 37, 115, 32, 97, 100, 100, 101, 100, 32, 116, 119, 105, 99, 101]⟩ 0).run Ybaf.prog w = .ok [] w := by kernel_rfl
@[go_sem] theorem Ybaf.fmt3 : FmtStop.printed? ⟨#[99, 104, 97, 110, 110, 101, 108, 32, 37, 115, 32, 45, 62, 32, 37, 115, 58, 32, 37, 119, 58, 32, 37, 115]⟩ 4 = some [(0, 115, false), (1, 115, false), (2, 119, false), (3, 115, false)] := by kernel_rfl
@[go_sem] theorem Ybaf.fmt3r (w : World) : (FmtDoors.printed ⟨#[99, 104, 97, 110, 110, 101, 108, 32, 37, 115, 32, 45, 62, 32, 37, 115, 58, 32, 37, 119, 58, 32, 37, 115]⟩ 4).run Ybaf.prog w = .ok [(0, 115, false), (1, 115, false), (2, 119, false), (3, 115, false)] w := by kernel_rfl
@[go_sem] theorem Ybaf.fmt3z : FmtStop.printed? ⟨#[99, 104, 97, 110, 110, 101, 108, 32, 37, 115, 32, 45, 62, 32, 37, 115, 58, 32, 37, 119, 58, 32, 37, 115]⟩ 0 = some [] := by kernel_rfl
@[go_sem] theorem Ybaf.fmt3zr (w : World) : (FmtDoors.printed ⟨#[99, 104, 97, 110, 110, 101, 108, 32, 37, 115, 32, 45, 62, 32, 37, 115, 58, 32, 37, 119, 58, 32, 37, 115]⟩ 0).run Ybaf.prog w = .ok [] w := by kernel_rfl
def Ybaf.shape9 : List UInt8 := [12, 6, 0, 0, 0, 0, 0, 0, 0, 115, 116, 114, 105, 110, 103]
@[go_sem] theorem Ybaf.op9_115 (name : String) (x : ByteArray) (w : World) : (FmtStop.operand name false 115 false (.iface 9 (.string x))).run Ybaf.prog w = .ok (Ybaf.shape9, FmtStop.pack x.data.toList) w := by kernel_rfl
@[go_sem] theorem Ybaf.op9_115w (name : String) (x : ByteArray) (w : World) : (FmtStop.operand name true 115 false (.iface 9 (.string x))).run Ybaf.prog w = .ok (Ybaf.shape9, FmtStop.pack x.data.toList) w := by kernel_rfl
@[go_sem] theorem Ybaf.op9_118 (name : String) (x : ByteArray) (w : World) : (FmtStop.operand name false 118 false (.iface 9 (.string x))).run Ybaf.prog w = .ok (Ybaf.shape9, FmtStop.pack x.data.toList) w := by kernel_rfl
@[go_sem] theorem Ybaf.op9_118w (name : String) (x : ByteArray) (w : World) : (FmtStop.operand name true 118 false (.iface 9 (.string x))).run Ybaf.prog w = .ok (Ybaf.shape9, FmtStop.pack x.data.toList) w := by kernel_rfl
@[go_sem] theorem Ybaf.op9_119w (name : String) (x : ByteArray) (w : World) : (FmtStop.operand name true 119 false (.iface 9 (.string x))).run Ybaf.prog w = .ok (Ybaf.shape9, FmtStop.pack x.data.toList) w := by kernel_rfl
@[go_sem] theorem Ybaf.strict9 (name : String) (x : ByteArray) (w : World) : (FmtStop.strict name (.iface 9 (.string x))).run Ybaf.prog w = .ok (Ybaf.shape9, FmtStop.pack x.data.toList) w := by kernel_rfl
@[go_sem] theorem Ybaf.ptr123 (w : World) : (FmtStop.ptrTo "errors.errorString").run Ybaf.prog w = .ok 123 w := by kernel_rfl
@[go_sem] theorem Ybaf.elem123 (w : World) : (elemOf 123).run Ybaf.prog w = .ok 125 w := by kernel_rfl
@[go_sem] theorem Ybaf.isError123' (w : World) : (FmtDoors.textMethod 123 "Error").run Ybaf.prog w = .ok true w := by kernel_rfl
def Ybaf.plain123 : List UInt8 := 14 :: FmtStop.pack "*errors.errorString".toUTF8.data.toList
theorem Ybaf.opPlain123_119w (name : String) (a : Addr) (s : ByteArray) (w : World) (hc : w.cell? a = some (.string s)) :
    (FmtStop.operand name true 119 false (.iface 123 (.pointer (some a)))).run Ybaf.prog w = .ok (Ybaf.plain123, s.data.toList) w := by
  have h1 : (typeStr 123).run Ybaf.prog w = .ok "*errors.errorString" w := by kernel_rfl
  have d2 : Ybaf.t123.desc = .pointer 125 := rfl
  have d3 : Ybaf.t125.desc = .named "errors.errorString" 124 := rfl
  simp [FmtStop.operand, h1, d2, d3, run_load, hc, Ybaf.plain123]
@[go_sem] theorem Ybaf.ptr136 (w : World) : (FmtStop.ptrTo "fmt.wrapError").run Ybaf.prog w = .ok 136 w := by kernel_rfl
@[go_sem] theorem Ybaf.elem136 (w : World) : (elemOf 136).run Ybaf.prog w = .ok 228 w := by kernel_rfl
@[go_sem] theorem Ybaf.isError136' (w : World) : (FmtDoors.textMethod 136 "Error").run Ybaf.prog w = .ok true w := by kernel_rfl

/-! ### errors.Is: what its text asks at a sentinel, and at an error that wraps it -/
theorem Ybaf.isTypeOf (v : Value) (w : World) : (Extern.ReflectliteType.typeOf #[.iface 123 v]).run Ybaf.prog w = .ok (.iface 148 (.agg #[.pointer (some ⟨5, 123, none⟩)])) w := by kernel_rfl
theorem Ybaf.isComp : (Ybaf.prog.info? 123).map (·.comparable) = some true := by kernel_rfl
theorem Ybaf.isSize : (Ybaf.prog.info? 125).map (·.size) = some 1 := by kernel_rfl
theorem Ybaf.noIsW (v : Value) (xT : TypeId) (w : World) : (Instr.typeAssert (.iface 136 v) xT 150 true).run Ybaf.prog w = .ok (.tuple #[.nilIface, .bool false]) w := run_typeAssert_lacksB Ybaf.underlying150 (by kernel_rfl) (by kernel_rfl) v xT w
theorem Ybaf.hasUnwrapW (v : Value) (xT : TypeId) (w : World) : (Instr.typeAssert (.iface 136 v) xT 153 true).run Ybaf.prog w = .ok (.tuple #[.iface 136 v, .bool true]) w := run_typeAssert_hasB Ybaf.underlying153 (by kernel_rfl) v xT w
end Go.Proofs
