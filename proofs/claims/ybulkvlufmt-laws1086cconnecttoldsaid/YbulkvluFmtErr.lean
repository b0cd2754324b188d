import Derived.Test.YbulkvluFmtBase
namespace Go.Proofs.YbulkvluFmt.Con
open Go.RowKit Go.Extern.Stop Go.Stop Go.Extern

/-- The model's entry for reflectlite's Comparable. -/
def cmpEntry : Array Value → Sem Value := Extern.ReflectliteType.method fun t => do Extern.Rtype.noPackHeld "Comparable" t; pure (.bool (← typeInfo t).comparable)
theorem isCmp (w : World) : (cmpEntry #[.agg #[.pointer (some ⟨5, 123, none⟩)]]).run Ybaf.prog w = .ok (.bool true) w := by kernel_rfl
theorem isMethodComparable (v : Value) (w : World) : (Go.method 381 148 v "Comparable").run Ybaf.prog w = .ok (90, v) w := by kernel_rfl
theorem methodUnwrap (v : Value) (w : World) : (Go.method 381 136 v "Unwrap").run Ybaf.prog w = .ok (86, v) w := by kernel_rfl

set_option maxRecDepth 100000 in
set_option maxHeartbeats 1600000 in
/-- errors.Is(e, x), e a *fmt.wrapError that wraps x itself, x a sentinel: one Unwrap, then equal. -/
theorem is_wrap (pb : Nat) (b : Addr) (w : World) (h1 : w.cell? ⟨pb, 1, none⟩ = some (.iface 123 (.pointer (some b)))) :
    Calls Ybaf.prog 10 #[.iface 136 (.pointer (some ⟨pb, 0, none⟩)), .iface 123 (.pointer (some b))] w fun e w' => e = .returned (.bool true) ∧ w' = w := by
  obtain ⟨i, hi, hcmp⟩ := Option.map_eq_some_iff.1 Ybaf.isComp
  obtain ⟨j, hj, hjs⟩ := Option.map_eq_some_iff.1 Ybaf.isSize
  have h21 := @run_callFunc_extern Ybaf.prog 21 _ Extern.ReflectliteType.typeOf Ybaf.func21 (by kernel_rfl) (by kernel_rfl) (by kernel_rfl) (by kernel_rfl)
  have h90 := @run_callFunc_extern Ybaf.prog 90 _ cmpEntry Ybaf.func90 (by kernel_rfl) (by kernel_rfl) (by kernel_rfl) (by kernel_rfl)
  have tT := Ybaf.isTypeOf
  have cT := isCmp
  have mR := isMethodComparable
  have nW := Ybaf.noIsW
  have uW := Ybaf.hasUnwrapW
  have mU := methodUnwrap
  have heq := run_eql_iface_ptr_same (P := Ybaf.prog) w b Ybaf.underlying52 Ybaf.underlying123 hi hcmp hj
  have hty := run_eql_iface_types (P := Ybaf.prog) 136 123 (.pointer (some ⟨pb, 0, none⟩)) (.pointer (some b)) Ybaf.underlying52 (by decide) w
  go_enter Ybaf.func10, Ybaf.ntmps10
  go_wp2
  refine wp_loop_rounds 2 ?_
  rw [rounds_succ]
  go_wp2
  rw [rounds_succ]
  go_wp2
  go_ret
  exact ⟨rfl, rfl⟩
set_option maxRecDepth 100000 in
set_option maxHeartbeats 1600000 in
theorem errorf0 (F : Interp) (vb : Nat) (x0 x2 : ByteArray) (a : Addr) (s : ByteArray) (w : World) (hF : F.answers w.tape) (c0 : w.cell? ⟨vb, 0, none⟩ = some (.iface 9 (.string x0))) (c1 : w.cell? ⟨vb, 1, none⟩ = some (.iface 123 (.pointer (some a)))) (c2 : w.cell? ⟨vb, 2, none⟩ = some (.iface 9 (.string x2))) (hs : w.cell? a = some (.string s)) :
    Calls Ybaf.prog 16 #[.string ⟨#[114, 101, 115, 116, 111, 114, 105, 110, 103, 32, 116, 104, 101, 32, 109, 101, 115, 115, 97, 103, 101, 115, 32, 111, 102, 32, 37, 115, 32, 116, 111, 32, 105, 116, 115, 101, 108, 102, 58, 32, 37, 119, 58, 32, 37, 115]⟩, .slice (some ⟨vb, 0, none⟩) 3 3] w fun e w' => e = .returned (.iface 136 (.pointer (some ⟨w.heap.size, 0, none⟩))) ∧ ∃ t, w' = (w.alloc (.cells #[.string t, .iface 123 (.pointer (some a))] 228)).drew := by
  have hF' := answers_open hF
  have hop := Ybaf.opPlain123_119w "fmt.errorf" a s _ hs
  go_enter Ybaf.func16, Ybaf.ntmps16
  go_wp2
  go_ret
  exact ⟨rfl, _, rfl⟩
set_option maxRecDepth 100000 in
set_option maxHeartbeats 1600000 in
theorem errorf1 (F : Interp) (vb : Nat) (x0 x1 : ByteArray) (a : Addr) (s : ByteArray) (w : World) (hF : F.answers w.tape) (c0 : w.cell? ⟨vb, 0, none⟩ = some (.iface 9 (.string x0))) (c1 : w.cell? ⟨vb, 1, none⟩ = some (.iface 9 (.string x1))) (c2 : w.cell? ⟨vb, 2, none⟩ = some (.iface 123 (.pointer (some a)))) (hs : w.cell? a = some (.string s)) :
    Calls Ybaf.prog 16 #[.string ⟨#[97, 100, 100, 105, 110, 103, 32, 99, 104, 97, 110, 110, 101, 108, 32, 37, 115, 32, 45, 62, 32, 37, 115, 58, 32, 37, 119]⟩, .slice (some ⟨vb, 0, none⟩) 3 3] w fun e w' => e = .returned (.iface 136 (.pointer (some ⟨w.heap.size, 0, none⟩))) ∧ ∃ t, w' = (w.alloc (.cells #[.string t, .iface 123 (.pointer (some a))] 228)).drew := by
  have hF' := answers_open hF
  have hop := Ybaf.opPlain123_119w "fmt.errorf" a s _ hs
  go_enter Ybaf.func16, Ybaf.ntmps16
  go_wp2
  go_ret
  exact ⟨rfl, _, rfl⟩
set_option maxRecDepth 100000 in
set_option maxHeartbeats 1600000 in
theorem errorf2 (F : Interp) (vb : Nat) (x1 x2 : ByteArray) (a : Addr) (s : ByteArray) (w : World) (hF : F.answers w.tape) (c0 : w.cell? ⟨vb, 0, none⟩ = some (.iface 123 (.pointer (some a)))) (c1 : w.cell? ⟨vb, 1, none⟩ = some (.iface 9 (.string x1))) (c2 : w.cell? ⟨vb, 2, none⟩ = some (.iface 9 (.string x2))) (hs : w.cell? a = some (.string s)) :
    Calls Ybaf.prog 16 #[.string ⟨#[37, 119, 58, 32, 37, 115, 32, 45, 62, 32, 37, 115, 32, 97, 100, 100, 101, 100, 32, 116, 119, 105, 99, 101]⟩, .slice (some ⟨vb, 0, none⟩) 3 3] w fun e w' => e = .returned (.iface 136 (.pointer (some ⟨w.heap.size, 0, none⟩))) ∧ ∃ t, w' = (w.alloc (.cells #[.string t, .iface 123 (.pointer (some a))] 228)).drew := by
  have hF' := answers_open hF
  have hop := Ybaf.opPlain123_119w "fmt.errorf" a s _ hs
  go_enter Ybaf.func16, Ybaf.ntmps16
  go_wp2
  go_ret
  exact ⟨rfl, _, rfl⟩
set_option maxRecDepth 100000 in
set_option maxHeartbeats 1600000 in
theorem errorf3 (F : Interp) (vb : Nat) (x0 x1 x3 : ByteArray) (a : Addr) (s : ByteArray) (w : World) (hF : F.answers w.tape) (c0 : w.cell? ⟨vb, 0, none⟩ = some (.iface 9 (.string x0))) (c1 : w.cell? ⟨vb, 1, none⟩ = some (.iface 9 (.string x1))) (c2 : w.cell? ⟨vb, 2, none⟩ = some (.iface 123 (.pointer (some a)))) (c3 : w.cell? ⟨vb, 3, none⟩ = some (.iface 9 (.string x3))) (hs : w.cell? a = some (.string s)) :
    Calls Ybaf.prog 16 #[.string ⟨#[99, 104, 97, 110, 110, 101, 108, 32, 37, 115, 32, 45, 62, 32, 37, 115, 58, 32, 37, 119, 58, 32, 37, 115]⟩, .slice (some ⟨vb, 0, none⟩) 4 4] w fun e w' => e = .returned (.iface 136 (.pointer (some ⟨w.heap.size, 0, none⟩))) ∧ ∃ t, w' = (w.alloc (.cells #[.string t, .iface 123 (.pointer (some a))] 228)).drew := by
  have hF' := answers_open hF
  have hop := Ybaf.opPlain123_119w "fmt.errorf" a s _ hs
  go_enter Ybaf.func16, Ybaf.ntmps16
  go_wp2
  go_ret
  exact ⟨rfl, _, rfl⟩
end Go.Proofs.YbulkvluFmt.Con
