/-
  CLOSED FACTS at this dump's numbers: fmt's two stopped fronts at the formats of the road; errors.Is by its contracts (after the guide's worked texts).
-/
import Derived.Test.YbulkcyvkFmtProg
import Derived.Stop.CallBack
import Derived.Stop.IfaceNil
import Derived.Stop.Asserts
import Derived.LaidEql
import Derived.WalkKit
import Derived.BigCall
import Derived.RowKitTokens
import GoSem.ClaimData
namespace Go.Proofs.YbulkcyvkFmt
set_option maxRecDepth 100000
open Go.RowKit Go.Extern.Stop Go.Stop Go.Extern

/-! ### fmt -/
@[go_sem] theorem Ybaf.call43 (args : Array Value) (w : World) : (callFunc 43 args).run Ybaf.prog w = (FmtCalls.sprintf #[9, 109] #[9] args).run Ybaf.prog w :=
  run_callFunc_next Ybaf.func43 (by kernel_rfl) (by kernel_rfl) (by kernel_rfl) args w
@[go_sem] theorem Ybaf.call44 (args : Array Value) (w : World) : (callFunc 44 args).run Ybaf.prog w = (FmtCalls.errorf #[9, 109] #[24] args).run Ybaf.prog w :=
  run_callFunc_next Ybaf.func44 (by kernel_rfl) (by kernel_rfl) (by kernel_rfl) args w
@[go_sem] theorem Ybaf.guard (name : String) (w : World) : (FmtStop.guard name).run Ybaf.prog w = .ok () w := by kernel_rfl
theorem Ybaf.nextTurns : Extern.next FmtCalls.turnsRow = some (FmtCalls.begun #[] #[]) := by kernel_rfl

-- "%s cut short: %d of %d octets", 3 operands
def cutText : ByteArray := ⟨#[37, 115, 32, 99, 117, 116, 32, 115, 104, 111, 114, 116, 58, 32, 37, 100, 32, 111, 102, 32, 37, 100, 32, 111, 99, 116, 101, 116, 115]⟩
-- "unable to read a %s: %w", 2 operands
def badText : ByteArray := ⟨#[117, 110, 97, 98, 108, 101, 32, 116, 111, 32, 114, 101, 97, 100, 32, 97, 32, 37, 115, 58, 32, 37, 119]⟩
@[go_sem] theorem Ybaf.fmt0 : FmtStop.printed? cutText 3 = some [(0, 115, false), (1, 100, false), (2, 100, false)] := by kernel_rfl
@[go_sem] theorem Ybaf.fmt1r (w : World) : (FmtDoors.printed badText 2).run Ybaf.prog w = .ok [(0, 115, false), (1, 119, false)] w := by kernel_rfl
@[go_sem] theorem Ybaf.has37 : badText.data.contains 37 = true := by kernel_rfl

def Ybaf.shape9 : List UInt8 := [12, 6, 0, 0, 0, 0, 0, 0, 0, 115, 116, 114, 105, 110, 103]
def Ybaf.shape3 : List UInt8 := [5, 3, 0, 0, 0, 0, 0, 0, 0, 105, 110, 116]
@[go_sem] theorem Ybaf.act9_115 (name : String) (x : Value) (w : World) : (FmtCalls.act name false 115 false (.iface 9 x)).run Ybaf.prog w = .ok (.closed false) w := by kernel_rfl
@[go_sem] theorem Ybaf.op9_115 (name : String) (x : ByteArray) (w : World) : (FmtStop.operand name false 115 false (.iface 9 (.string x))).run Ybaf.prog w = .ok (Ybaf.shape9, FmtStop.pack x.data.toList) w := by kernel_rfl
@[go_sem] theorem Ybaf.act9_115w (name : String) (x : Value) (w : World) : (FmtCalls.act name true 115 false (.iface 9 x)).run Ybaf.prog w = .ok (.closed true) w := by kernel_rfl
@[go_sem] theorem Ybaf.op9_115w (name : String) (x : ByteArray) (w : World) : (FmtStop.operand name true 115 false (.iface 9 (.string x))).run Ybaf.prog w = .ok (Ybaf.shape9, FmtStop.pack x.data.toList) w := by kernel_rfl
@[go_sem] theorem Ybaf.act3_100 (name : String) (x : Value) (w : World) : (FmtCalls.act name false 100 false (.iface 3 x)).run Ybaf.prog w = .ok (.closed false) w := by kernel_rfl
@[go_sem] theorem Ybaf.op3_100 (name : String) (x : Int) (w : World) : (FmtStop.operand name false 100 false (.iface 3 (.int .i64 x))).run Ybaf.prog w = .ok (Ybaf.shape3, Go.Extern.Stop.digits 8 (x % 2 ^ 64).toNat) w := by kernel_rfl
@[go_sem] theorem Ybaf.ptr81 (w : World) : (FmtStop.ptrTo "errors.errorString").run Ybaf.prog w = .ok 81 w := by kernel_rfl
@[go_sem] theorem Ybaf.elem81 (w : World) : (elemOf 81).run Ybaf.prog w = .ok 83 w := by kernel_rfl
@[go_sem] theorem Ybaf.isError81 (w : World) : (FmtDoors.textMethod 81 "Error").run Ybaf.prog w = .ok true w := by kernel_rfl
@[go_sem] theorem Ybaf.ptr113 (w : World) : (FmtStop.ptrTo "fmt.wrapError").run Ybaf.prog w = .ok 113 w := by kernel_rfl
@[go_sem] theorem Ybaf.elem113 (w : World) : (elemOf 113).run Ybaf.prog w = .ok 175 w := by kernel_rfl
def Ybaf.plain81 : List UInt8 := 14 :: FmtStop.pack "*errors.errorString".toUTF8.data.toList
theorem Ybaf.opPlain81_119w (name : String) (a : Addr) (s : ByteArray) (w : World) (hc : w.cell? a = some (.string s)) :
    (FmtStop.operand name true 119 false (.iface 81 (.pointer (some a)))).run Ybaf.prog w = .ok (Ybaf.plain81, s.data.toList) w := by
  have h1 : (typeStr 81).run Ybaf.prog w = .ok "*errors.errorString" w := by kernel_rfl
  have d2 : Ybaf.t81.desc = .pointer 83 := rfl
  have d3 : Ybaf.t83.desc = .named "errors.errorString" 82 := rfl
  simp [FmtStop.operand, h1, d2, d3, run_load, hc, Ybaf.plain81]
@[go_sem] theorem Ybaf.actPlain81_119w (name : String) (x : Value) (w : World) : (FmtCalls.act name true 119 false (.iface 81 x)).run Ybaf.prog w = .ok (.closed true) w := by kernel_rfl

/-! ### errors.Is -/
theorem Ybaf.run28 (v : Value) (w : World) : (callFunc 28 #[.iface 81 v]).run Ybaf.prog w = .ok (.value (.iface 115 (.agg #[.pointer (some ⟨14, 81, none⟩)]))) w := by
  rw [run_callFunc_extern Ybaf.func28 (by kernel_rfl) (by kernel_rfl) (by kernel_rfl) (show _ = some Extern.ReflectliteType.typeOf by kernel_rfl)]
  kernel_rfl
theorem Ybaf.run97 (w : World) : (callFunc 97 #[.agg #[.pointer (some ⟨14, 81, none⟩)]]).run Ybaf.prog w = .ok (.value (.bool true)) w := by
  rw [run_callFunc_extern Ybaf.func97 (by kernel_rfl) (by kernel_rfl) (by kernel_rfl) (show _ = some (Extern.ReflectliteType.method fun t => do Go.Extern.Rtype.noPackHeld "Comparable" t; pure (.bool (← typeInfo t).comparable)) by kernel_rfl)]
  kernel_rfl
theorem Ybaf.isMethodComparable (v : Value) (w : World) : (Go.method 368 115 v "Comparable").run Ybaf.prog w = .ok (97, v) w := by kernel_rfl
theorem Ybaf.methodUnwrap (v : Value) (w : World) : (Go.method 368 113 v "Unwrap").run Ybaf.prog w = .ok (93, v) w := by kernel_rfl
theorem Ybaf.isComp : (Ybaf.prog.info? 81).map (·.comparable) = some true := by kernel_rfl
theorem Ybaf.isSize : (Ybaf.prog.info? 83).map (·.size) = some 1 := by kernel_rfl
theorem Ybaf.noIsE (v : Value) (xT : TypeId) (w : World) : (Instr.typeAssert (.iface 81 v) xT 117 true).run Ybaf.prog w = .ok (.tuple #[.nilIface, .bool false]) w := run_typeAssert_lacksB Ybaf.underlying117 (by kernel_rfl) (by kernel_rfl) v xT w
theorem Ybaf.noUnwrapE (v : Value) (xT : TypeId) (w : World) : (Instr.typeAssert (.iface 81 v) xT 120 true).run Ybaf.prog w = .ok (.tuple #[.nilIface, .bool false]) w := run_typeAssert_lacksB Ybaf.underlying120 (by kernel_rfl) (by kernel_rfl) v xT w
theorem Ybaf.noUnwrapsE (v : Value) (xT : TypeId) (w : World) : (Instr.typeAssert (.iface 81 v) xT 121 true).run Ybaf.prog w = .ok (.tuple #[.nilIface, .bool false]) w := run_typeAssert_lacksB Ybaf.underlying121 (by kernel_rfl) (by kernel_rfl) v xT w
theorem Ybaf.noIsW (v : Value) (xT : TypeId) (w : World) : (Instr.typeAssert (.iface 113 v) xT 117 true).run Ybaf.prog w = .ok (.tuple #[.nilIface, .bool false]) w := run_typeAssert_lacksB Ybaf.underlying117 (by kernel_rfl) (by kernel_rfl) v xT w
theorem Ybaf.hasUnwrapW (v : Value) (xT : TypeId) (w : World) : (Instr.typeAssert (.iface 113 v) xT 120 true).run Ybaf.prog w = .ok (.tuple #[.iface 113 v, .bool true]) w := run_typeAssert_hasB Ybaf.underlying120 (by kernel_rfl) v xT w

/-- errors.Is(x, x), x a pointer to an errors.errorString. -/
theorem is_same (a : Addr) (w : World) :
    Calls Ybaf.prog 12 #[.iface 81 (.pointer (some a)), .iface 81 (.pointer (some a))] w fun e w' => e = .returned (.bool true) ∧ w = w' := by
  obtain ⟨i, hi, hcmp⟩ := Option.map_eq_some_iff.1 Ybaf.isComp
  obtain ⟨j, hj, hjs⟩ := Option.map_eq_some_iff.1 Ybaf.isSize
  have r28 := Ybaf.run28
  have r97 := Ybaf.run97
  have mR := Ybaf.isMethodComparable
  have heq := run_eql_iface_ptr_same (P := Ybaf.prog) w a Ybaf.underlying24 Ybaf.underlying81 hi hcmp hj
  go_enter Ybaf.func12, Ybaf.ntmps12
  go_wp2
  refine wp_loop_rounds 1 ?_
  rw [rounds_succ]
  go_wp2
  go_ret
  exact ⟨rfl, rfl⟩

/-- errors.Is(x, y), two different pointers to errors.errorString: false. -/
theorem is_other (a b : Addr) (ca cb : Array Value) (ta tb : TypeId) (w : World) (hne : a ≠ b) (ha : w.heap[a.block]? = some (.cells ca ta (0, 0))) (hb : w.heap[b.block]? = some (.cells cb tb (0, 0))) :
    Calls Ybaf.prog 12 #[.iface 81 (.pointer (some a)), .iface 81 (.pointer (some b))] w fun e w' => e = .returned (.bool false) ∧ w = w' := by
  obtain ⟨i, hi, hcmp⟩ := Option.map_eq_some_iff.1 Ybaf.isComp
  obtain ⟨j, hj, hjs⟩ := Option.map_eq_some_iff.1 Ybaf.isSize
  have r28 := Ybaf.run28
  have r97 := Ybaf.run97
  have mR := Ybaf.isMethodComparable
  have nE := Ybaf.noIsE
  have uE := Ybaf.noUnwrapE
  have vE := Ybaf.noUnwrapsE
  have nW := Ybaf.noIsW
  have uW := Ybaf.hasUnwrapW
  have mU := Ybaf.methodUnwrap
  have heq := run_eql_iface_ptr_other (P := Ybaf.prog) w Ybaf.underlying24 Ybaf.underlying81 hi hcmp hj (by rw [hjs]; decide) hne ha hb
  go_enter Ybaf.func12, Ybaf.ntmps12
  go_wp2
  refine wp_loop_rounds 1 ?_
  rw [rounds_succ]
  go_wp2
  go_ret
  exact ⟨rfl, rfl⟩

/-- errors.Is(e, x), e a *fmt.wrapError that wraps x itself. -/
theorem is_wrap_same (pb po : Nat) (b : Addr) (w : World) (h1 : w.cell? ⟨pb, po + 1, none⟩ = some (.iface 81 (.pointer (some b)))) :
    Calls Ybaf.prog 12 #[.iface 113 (.pointer (some ⟨pb, po, none⟩)), .iface 81 (.pointer (some b))] w fun e w' => e = .returned (.bool true) ∧ w = w' := by
  obtain ⟨i, hi, hcmp⟩ := Option.map_eq_some_iff.1 Ybaf.isComp
  obtain ⟨j, hj, hjs⟩ := Option.map_eq_some_iff.1 Ybaf.isSize
  have r28 := Ybaf.run28
  have r97 := Ybaf.run97
  have mR := Ybaf.isMethodComparable
  have nE := Ybaf.noIsE
  have uE := Ybaf.noUnwrapE
  have vE := Ybaf.noUnwrapsE
  have nW := Ybaf.noIsW
  have uW := Ybaf.hasUnwrapW
  have mU := Ybaf.methodUnwrap
  have heq := run_eql_iface_ptr_same (P := Ybaf.prog) w b Ybaf.underlying24 Ybaf.underlying81 hi hcmp hj
  have hty := run_eql_iface_types (P := Ybaf.prog) 113 81 (.pointer (some ⟨pb, po, none⟩)) (.pointer (some b)) Ybaf.underlying24 (by decide) w
  go_enter Ybaf.func12, Ybaf.ntmps12
  go_wp2
  refine wp_loop_rounds 2 ?_
  rw [rounds_succ]
  go_wp2
  rw [rounds_succ]
  go_wp2
  go_ret
  exact ⟨rfl, rfl⟩

/-- errors.Is(e, x), e a *fmt.wrapError that wraps another error of errors.New's make. -/
theorem is_wrap_other (pb po : Nat) (b a : Addr) (ca cb : Array Value) (ta tb : TypeId) (w : World) (h1 : w.cell? ⟨pb, po + 1, none⟩ = some (.iface 81 (.pointer (some a)))) (hne : a ≠ b) (ha : w.heap[a.block]? = some (.cells ca ta (0, 0))) (hb : w.heap[b.block]? = some (.cells cb tb (0, 0))) :
    Calls Ybaf.prog 12 #[.iface 113 (.pointer (some ⟨pb, po, none⟩)), .iface 81 (.pointer (some b))] w fun e w' => e = .returned (.bool false) ∧ w = w' := by
  obtain ⟨i, hi, hcmp⟩ := Option.map_eq_some_iff.1 Ybaf.isComp
  obtain ⟨j, hj, hjs⟩ := Option.map_eq_some_iff.1 Ybaf.isSize
  have r28 := Ybaf.run28
  have r97 := Ybaf.run97
  have mR := Ybaf.isMethodComparable
  have nE := Ybaf.noIsE
  have uE := Ybaf.noUnwrapE
  have vE := Ybaf.noUnwrapsE
  have nW := Ybaf.noIsW
  have uW := Ybaf.hasUnwrapW
  have mU := Ybaf.methodUnwrap
  have heq := run_eql_iface_ptr_other (P := Ybaf.prog) w Ybaf.underlying24 Ybaf.underlying81 hi hcmp hj (by rw [hjs]; decide) hne ha hb
  have hty := run_eql_iface_types (P := Ybaf.prog) 113 81 (.pointer (some ⟨pb, po, none⟩)) (.pointer (some b)) Ybaf.underlying24 (by decide) w
  go_enter Ybaf.func12, Ybaf.ntmps12
  go_wp2
  refine wp_loop_rounds 2 ?_
  rw [rounds_succ]
  go_wp2
  rw [rounds_succ]
  go_wp2
  go_ret
  exact ⟨rfl, rfl⟩
end Go.Proofs.YbulkcyvkFmt
