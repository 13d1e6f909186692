import Derived.Test.YbulkcntwFmtChecked
import Derived.Stop.CallBack
import Derived.Stop.IfaceNil
import GoSem.ClaimData
import Derived.WalkKit
import Derived.LaidEql
import Derived.Stop.Asserts
import Derived.RowKitTokens
import Derived.WalkSpells
namespace Go.Proofs
open Go.Extern.Stop Go.Stop Go.Extern

/-! ### Closed facts for the walk over fmt's stopped front (after the guide's generated texts) -/
@[go_sem] theorem Ybaf.call16 (args : Array Value) (w : World) : (callFunc 16 args).run Ybaf.prog w = ((FmtStop.errorf #[9, 43] #[28] args).run Ybaf.prog w).andThen fun v w' => .ok (.value v) w' :=
  run_callFunc_extern Ybaf.func16 (by kernel_rfl) (by kernel_rfl) (by kernel_rfl) (by kernel_rfl) args w
@[go_sem] theorem Ybaf.guard (name : String) (w : World) : (FmtStop.guard name).run Ybaf.prog w = .ok () w := by kernel_rfl
-- "keyword %q is %w"
@[go_sem] theorem Ybaf.fmt0 : FmtStop.printed? ⟨#[107, 101, 121, 119, 111, 114, 100, 32, 37, 113, 32, 105, 115, 32, 37, 119]⟩ 2 = some [(0, 113, false), (1, 119, false)] := by kernel_rfl
@[go_sem] theorem Ybaf.fmt0r (w : World) : (FmtDoors.printed ⟨#[107, 101, 121, 119, 111, 114, 100, 32, 37, 113, 32, 105, 115, 32, 37, 119]⟩ 2).run Ybaf.prog w = .ok [(0, 113, false), (1, 119, false)] w := by kernel_rfl
-- "resource %q: %w"
@[go_sem] theorem Ybaf.fmt1 : FmtStop.printed? ⟨#[114, 101, 115, 111, 117, 114, 99, 101, 32, 37, 113, 58, 32, 37, 119]⟩ 2 = some [(0, 113, false), (1, 119, false)] := by kernel_rfl
@[go_sem] theorem Ybaf.fmt1r (w : World) : (FmtDoors.printed ⟨#[114, 101, 115, 111, 117, 114, 99, 101, 32, 37, 113, 58, 32, 37, 119]⟩ 2).run Ybaf.prog w = .ok [(0, 113, false), (1, 119, false)] w := by kernel_rfl
theorem Ybaf.name9 : Ybaf.prog.typeName? 3 9 = some "string" := by kernel_rfl
def Ybaf.shape9 : List UInt8 := [12, 6, 0, 0, 0, 0, 0, 0, 0, 115, 116, 114, 105, 110, 103]
@[go_sem] theorem Ybaf.op9_113w (name : String) (x : ByteArray) (w : World) : (FmtStop.operand name true 113 false (.iface 9 (.string x))).run Ybaf.prog w = .ok (Ybaf.shape9, FmtStop.pack x.data.toList) w := by kernel_rfl
@[go_sem] theorem Ybaf.strict9 (name : String) (x : ByteArray) (w : World) : (FmtStop.strict name (.iface 9 (.string x))).run Ybaf.prog w = .ok (Ybaf.shape9, FmtStop.pack x.data.toList) w := by kernel_rfl
@[go_sem] theorem Ybaf.ptr58 (w : World) : (FmtStop.ptrTo "errors.errorString").run Ybaf.prog w = .ok 58 w := by kernel_rfl
@[go_sem] theorem Ybaf.elem58 (w : World) : (elemOf 58).run Ybaf.prog w = .ok 60 w := by kernel_rfl
@[go_sem] theorem Ybaf.isError58' (w : World) : (FmtDoors.textMethod 58 "Error").run Ybaf.prog w = .ok true w := by kernel_rfl
theorem Ybaf.name58 : Ybaf.prog.typeName? 3 58 = some "*errors.errorString" := by kernel_rfl
def Ybaf.plain58 : List UInt8 := 14 :: FmtStop.pack "*errors.errorString".toUTF8.data.toList
theorem Ybaf.opPlain58_119w (name : String) (a : Addr) (s : ByteArray) (w : World) (hc : w.cell? a = some (.string s)) :
    (FmtStop.operand name true 119 false (.iface 58 (.pointer (some a)))).run Ybaf.prog w = .ok (Ybaf.plain58, s.data.toList) w := by
  have h1 : (typeStr 58).run Ybaf.prog w = .ok "*errors.errorString" w := by kernel_rfl
  have d2 : Ybaf.t58.desc = .pointer 60 := rfl
  have d3 : Ybaf.t60.desc = .named "errors.errorString" 59 := rfl
  simp [FmtStop.operand, h1, d2, d3, run_load, hc, Ybaf.plain58]
@[go_sem] theorem Ybaf.ptr45 (w : World) : (FmtStop.ptrTo "fmt.wrapError").run Ybaf.prog w = .ok 45 w := by kernel_rfl
@[go_sem] theorem Ybaf.elem45 (w : World) : (elemOf 45).run Ybaf.prog w = .ok 86 w := by kernel_rfl
@[go_sem] theorem Ybaf.isError45' (w : World) : (FmtDoors.textMethod 45 "Error").run Ybaf.prog w = .ok true w := by kernel_rfl
theorem Ybaf.name45 : Ybaf.prog.typeName? 3 45 = some "*fmt.wrapError" := by kernel_rfl
def Ybaf.plain45 : List UInt8 := 14 :: FmtStop.pack "*fmt.wrapError".toUTF8.data.toList
theorem Ybaf.opPlain45_119w (name : String) (a : Addr) (s : ByteArray) (w : World) (hc : w.cell? a = some (.string s)) :
    (FmtStop.operand name true 119 false (.iface 45 (.pointer (some a)))).run Ybaf.prog w = .ok (Ybaf.plain45, s.data.toList) w := by
  have h1 : (typeStr 45).run Ybaf.prog w = .ok "*fmt.wrapError" w := by kernel_rfl
  have d2 : Ybaf.t45.desc = .pointer 86 := rfl
  have d3 : Ybaf.t86.desc = .named "fmt.wrapError" 85 := rfl
  simp [FmtStop.operand, h1, d2, d3, run_load, hc, Ybaf.plain45]
end Go.Proofs

namespace Go.Proofs.YbulkcntwFmt
open Go.RowKit Go.Extern.Stop Go.Stop Go.Extern
set_option linter.unusedVariables false

/-! ### fmt.Errorf by its contracts -/
theorem errorf_keyword (F : Interp) (k : ByteArray) (a : Addr) (s : ByteArray) (blk : Nat) (w : World) (hF : F.answers w.tape)
    (hc0 : w.cell? ⟨blk, 0, none⟩ = some (.iface 9 (.string k))) (hc1 : w.cell? ⟨blk, 1, none⟩ = some (.iface 58 (.pointer (some a)))) (hs : w.cell? a = some (.string s)) :
    Calls Ybaf.prog 11 #[.string ⟨#[107, 101, 121, 119, 111, 114, 100, 32, 37, 113, 32, 105, 115, 32, 37, 119]⟩, .slice (some ⟨blk, 0, none⟩) 2 2] w fun e w' =>
      e = .returned (.iface 45 (.pointer (some ⟨w.heap.size, 0, none⟩))) ∧ ∃ t, w' = (w.alloc (.cells #[.string t, .iface 58 (.pointer (some a))] 86)).drew := by
  have hF' := answers_open hF
  have hop := Ybaf.opPlain58_119w "fmt.errorf" a s w hs
  go_enter Ybaf.func11, Ybaf.ntmps11
  go_wp2
  go_ret
  exact ⟨rfl, _, rfl⟩

theorem errorf_resource (F : Interp) (k : ByteArray) (a : Addr) (s : ByteArray) (blk : Nat) (w : World) (hF : F.answers w.tape)
    (hc0 : w.cell? ⟨blk, 0, none⟩ = some (.iface 9 (.string k))) (hc1 : w.cell? ⟨blk, 1, none⟩ = some (.iface 45 (.pointer (some a)))) (hs : w.cell? a = some (.string s)) :
    Calls Ybaf.prog 11 #[.string ⟨#[114, 101, 115, 111, 117, 114, 99, 101, 32, 37, 113, 58, 32, 37, 119]⟩, .slice (some ⟨blk, 0, none⟩) 2 2] w fun e w' =>
      e = .returned (.iface 45 (.pointer (some ⟨w.heap.size, 0, none⟩))) ∧ ∃ t, w' = (w.alloc (.cells #[.string t, .iface 45 (.pointer (some a))] 86)).drew := by
  have hF' := answers_open hF
  have hop := Ybaf.opPlain45_119w "fmt.errorf" a s w hs
  go_enter Ybaf.func11, Ybaf.ntmps11
  go_wp2
  go_ret
  exact ⟨rfl, _, rfl⟩

/-! ### errors.Is by its contract: a wrapped wrapped sentinel (after the guide's is-facts) -/
theorem Ybaf.isTypeOf (v : Value) (w : World) : (Extern.ReflectliteType.typeOf #[.iface 58 v]).run Ybaf.prog w = .ok (.iface 47 (.agg #[.pointer (some ⟨1, 58, none⟩)])) w := by kernel_rfl
/-- What the model runs for '(rtype).Comparable'. -/
def cmpEntry : Array Value → Sem Value := Extern.ReflectliteType.method fun t => do Go.Extern.Rtype.noPackHeld "Comparable" t; pure (.bool (← typeInfo t).comparable)
theorem Ybaf.isComparable (w : World) : (cmpEntry #[.agg #[.pointer (some ⟨1, 58, none⟩)]]).run Ybaf.prog w = .ok (.bool true) w := by kernel_rfl
theorem Ybaf.isMethodComparable (v : Value) (w : World) : (Go.method 201 47 v "Comparable").run Ybaf.prog w = .ok (41, v) w := by kernel_rfl
theorem Ybaf.isComp : (Ybaf.prog.info? 58).map (·.comparable) = some true := by kernel_rfl
theorem Ybaf.isSize : (Ybaf.prog.info? 60).map (·.size) = some 1 := by kernel_rfl
theorem Ybaf.noIsW (v : Value) (xT : TypeId) (w : World) : (Instr.typeAssert (.iface 45 v) xT 49 true).run Ybaf.prog w = .ok (.tuple #[.nilIface, .bool false]) w := run_typeAssert_lacksB Ybaf.underlying49 (by kernel_rfl) (by kernel_rfl) v xT w
theorem Ybaf.hasUnwrapW (v : Value) (xT : TypeId) (w : World) : (Instr.typeAssert (.iface 45 v) xT 52 true).run Ybaf.prog w = .ok (.tuple #[.iface 45 v, .bool true]) w := run_typeAssert_hasB Ybaf.underlying52 (by kernel_rfl) v xT w
theorem Ybaf.methodUnwrap (v : Value) (w : World) : (Go.method 201 45 v "Unwrap").run Ybaf.prog w = .ok (37, v) w := by kernel_rfl

theorem is_wrap2 (p1 p2 : Nat) (b : Addr) (w : World) (h1 : w.cell? ⟨p1, 1, none⟩ = some (.iface 45 (.pointer (some ⟨p2, 0, none⟩)))) (h2 : w.cell? ⟨p2, 1, none⟩ = some (.iface 58 (.pointer (some b)))) :
    Calls Ybaf.prog 8 #[.iface 45 (.pointer (some ⟨p1, 0, none⟩)), .iface 58 (.pointer (some b))] w fun e w' => e = .returned (.bool true) ∧ w' = w := by
  obtain ⟨i, hi, hcmp⟩ := Option.map_eq_some_iff.1 Ybaf.isComp
  obtain ⟨j, hj, hjs⟩ := Option.map_eq_some_iff.1 Ybaf.isSize
  have h12 := @run_callFunc_extern Ybaf.prog 12 _ Extern.ReflectliteType.typeOf Ybaf.func12 (by kernel_rfl) (by kernel_rfl) (by kernel_rfl) (by kernel_rfl)
  have h41 := @run_callFunc_extern Ybaf.prog 41 _ cmpEntry Ybaf.func41 (by kernel_rfl) (by kernel_rfl) (by kernel_rfl) (by kernel_rfl)
  have tT := Ybaf.isTypeOf
  have cT := Ybaf.isComparable
  have mR := Ybaf.isMethodComparable
  have nW := Ybaf.noIsW
  have uW := Ybaf.hasUnwrapW
  have mU := Ybaf.methodUnwrap
  have heq := run_eql_iface_ptr_same (P := Ybaf.prog) w b Ybaf.underlying28 Ybaf.underlying58 hi hcmp hj
  have hty1 := run_eql_iface_types (P := Ybaf.prog) 45 58 (.pointer (some ⟨p1, 0, none⟩)) (.pointer (some b)) Ybaf.underlying28 (by decide) w
  have hty2 := run_eql_iface_types (P := Ybaf.prog) 45 58 (.pointer (some ⟨p2, 0, none⟩)) (.pointer (some b)) Ybaf.underlying28 (by decide) w
  go_enter Ybaf.func8, Ybaf.ntmps8
  go_wp2
  refine wp_loop_rounds 3 ?_
  rw [rounds_succ]
  go_wp2
  rw [rounds_succ]
  go_wp2
  rw [rounds_succ]
  go_wp2
  go_ret
  exact ⟨rfl, rfl⟩
end Go.Proofs.YbulkcntwFmt
