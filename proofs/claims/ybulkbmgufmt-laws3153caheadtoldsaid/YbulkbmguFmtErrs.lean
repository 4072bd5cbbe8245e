/-
  errors.New, errors.Is and fmt.Errorf BY CONTRACTS at this dump, for what the two laws hand them (after the make of the guide's 10.9 and 10.6; the guide's own programs for these facts do not lie here: typed by hand).
  The numbers: 34: error · 75: the pointer to errors.errorString · 77: errors.errorString · 86: the pointer to fmt.wrapError · 360: fmt.wrapError · 91: reflectlite's rtype · 93, 96, 98: the three interfaces that errors.is asserts · functions 11: errors.New · 17: errors.Is · 20: fmt.Errorf · 23: reflectlite.TypeOf · 25: fmt.errorf · 199: Unwrap · 203: Comparable.
-/
import Derived.Test.YbulkbmguFmtRows
import Derived.WalkKit
import Derived.WalkSpells
import Derived.LaidEql
import Derived.Stop.Asserts
import Derived.RowKitTokens
import Derived.Stop.CallBack
import Derived.Stop.IfaceNil
namespace Go.Proofs.YbulkbmguFmt
open Go.RowKit Go.Extern.Stop Go.Stop Go.Extern
set_option maxRecDepth 100000

/-- errors.New: a new block that holds the text. -/
theorem new_any (s : ByteArray) (w : World) :
    Calls Ybaf.prog 11 #[.string s] w fun e w' => e = .returned (.iface 75 (.pointer (some ⟨w.heap.size, 0, none⟩))) ∧ w' = w.alloc (.cells #[.string s] 77) := by
  go_enter Ybaf.func11, Ybaf.ntmps11
  go_wp2
  go_ret
  exact ⟨rfl, rfl⟩

theorem isTypeOf (v : Value) (w : World) : (callFunc 23 #[.iface 75 v]).run Ybaf.prog w = .ok (.value (.iface 91 (.agg #[.pointer (some ⟨33, 75, none⟩)]))) w := by kernel_rfl
theorem isMethod (v : Value) (w : World) : (Go.method 502 91 v "Comparable").run Ybaf.prog w = .ok (203, v) w := by kernel_rfl
theorem isComparable (w : World) : (callFunc 203 #[.agg #[.pointer (some ⟨33, 75, none⟩)]]).run Ybaf.prog w = .ok (.value (.bool true)) w := by kernel_rfl
theorem methodUnwrap (v : Value) (w : World) : (Go.method 502 86 v "Unwrap").run Ybaf.prog w = .ok (199, v) w := by kernel_rfl
theorem isComp : (Ybaf.prog.info? 75).map (·.comparable) = some true := by kernel_rfl
theorem isSize : (Ybaf.prog.info? 77).map (·.size) = some 1 := by kernel_rfl
theorem noIsE (v : Value) (xT : TypeId) (w : World) : (Instr.typeAssert (.iface 75 v) xT 93 true).run Ybaf.prog w = .ok (.tuple #[.nilIface, .bool false]) w := run_typeAssert_lacksB Ybaf.underlying93 (by kernel_rfl) (by kernel_rfl) v xT w
theorem noUnwrapE (v : Value) (xT : TypeId) (w : World) : (Instr.typeAssert (.iface 75 v) xT 96 true).run Ybaf.prog w = .ok (.tuple #[.nilIface, .bool false]) w := run_typeAssert_lacksB Ybaf.underlying96 (by kernel_rfl) (by kernel_rfl) v xT w
theorem noUnwrapsE (v : Value) (xT : TypeId) (w : World) : (Instr.typeAssert (.iface 75 v) xT 98 true).run Ybaf.prog w = .ok (.tuple #[.nilIface, .bool false]) w := run_typeAssert_lacksB Ybaf.underlying98 (by kernel_rfl) (by kernel_rfl) v xT w
theorem noIsW (v : Value) (xT : TypeId) (w : World) : (Instr.typeAssert (.iface 86 v) xT 93 true).run Ybaf.prog w = .ok (.tuple #[.nilIface, .bool false]) w := run_typeAssert_lacksB Ybaf.underlying93 (by kernel_rfl) (by kernel_rfl) v xT w
theorem hasUnwrapW (v : Value) (xT : TypeId) (w : World) : (Instr.typeAssert (.iface 86 v) xT 96 true).run Ybaf.prog w = .ok (.tuple #[.iface 86 v, .bool true]) w := run_typeAssert_hasB Ybaf.underlying96 (by kernel_rfl) v xT w

/-- errors.Is(nil, x). -/
theorem is_nil (b : Addr) (w : World) :
    Calls Ybaf.prog 17 #[.nilIface, .iface 75 (.pointer (some b))] w fun e w' => e = .returned (.bool false) ∧ w' = w := by
  have hn := run_eql_iface_nil_left (P := Ybaf.prog) w 75 (.pointer (some b)) Ybaf.underlying34
  go_enter Ybaf.func17, Ybaf.ntmps17
  go_wp2
  go_ret
  exact ⟨rfl, rfl⟩

/-- errors.Is(x, x), x a pointer to an errors.errorString. -/
theorem is_same (a : Addr) (w : World) :
    Calls Ybaf.prog 17 #[.iface 75 (.pointer (some a)), .iface 75 (.pointer (some a))] w fun e w' => e = .returned (.bool true) ∧ w' = w := by
  obtain ⟨i, hi, hcmp⟩ := Option.map_eq_some_iff.1 isComp
  obtain ⟨j, hj, hjs⟩ := Option.map_eq_some_iff.1 isSize
  have tT := isTypeOf
  have cT := isComparable
  have mR := isMethod
  have heq := run_eql_iface_ptr_same (P := Ybaf.prog) w a Ybaf.underlying34 Ybaf.underlying75 hi hcmp hj
  go_enter Ybaf.func17, Ybaf.ntmps17
  go_wp2
  refine wp_loop_rounds 1 ?_
  rw [rounds_succ]
  go_wp2
  go_ret
  exact ⟨rfl, rfl⟩

/-- errors.Is(x, y), two different pointers to errors.errorString. -/
theorem is_other (a b : Addr) (ca cb : Array Value) (ta tb : TypeId) (w : World) (hne : a ≠ b) (ha : w.heap[a.block]? = some (.cells ca ta (0, 0))) (hb : w.heap[b.block]? = some (.cells cb tb (0, 0))) :
    Calls Ybaf.prog 17 #[.iface 75 (.pointer (some a)), .iface 75 (.pointer (some b))] w fun e w' => e = .returned (.bool false) ∧ w' = w := by
  obtain ⟨i, hi, hcmp⟩ := Option.map_eq_some_iff.1 isComp
  obtain ⟨j, hj, hjs⟩ := Option.map_eq_some_iff.1 isSize
  have tT := isTypeOf
  have cT := isComparable
  have mR := isMethod
  have nE := noIsE
  have uE := noUnwrapE
  have vE := noUnwrapsE
  have heq := run_eql_iface_ptr_other (P := Ybaf.prog) w Ybaf.underlying34 Ybaf.underlying75 hi hcmp hj (by rw [hjs]; decide) hne ha hb
  go_enter Ybaf.func17, Ybaf.ntmps17
  go_wp2
  refine wp_loop_rounds 1 ?_
  rw [rounds_succ]
  go_wp2
  go_ret
  exact ⟨rfl, rfl⟩

/-- errors.Is(e, x), e a pointer to a fmt.wrapError that wraps x itself. -/
theorem is_wrap_same (pb : Nat) (b : Addr) (w : World) (h1 : w.cell? ⟨pb, 1, none⟩ = some (.iface 75 (.pointer (some b)))) :
    Calls Ybaf.prog 17 #[.iface 86 (.pointer (some ⟨pb, 0, none⟩)), .iface 75 (.pointer (some b))] w fun e w' => e = .returned (.bool true) ∧ w' = w := by
  obtain ⟨i, hi, hcmp⟩ := Option.map_eq_some_iff.1 isComp
  obtain ⟨j, hj, hjs⟩ := Option.map_eq_some_iff.1 isSize
  have tT := isTypeOf
  have cT := isComparable
  have mR := isMethod
  have nE := noIsE
  have uE := noUnwrapE
  have vE := noUnwrapsE
  have nW := noIsW
  have uW := hasUnwrapW
  have mU := methodUnwrap
  have heq := run_eql_iface_ptr_same (P := Ybaf.prog) w b Ybaf.underlying34 Ybaf.underlying75 hi hcmp hj
  have hty := run_eql_iface_types (P := Ybaf.prog) 86 75 (.pointer (some ⟨pb, 0, none⟩)) (.pointer (some b)) Ybaf.underlying34 (by decide) w
  go_enter Ybaf.func17, Ybaf.ntmps17
  go_wp2
  refine wp_loop_rounds 2 ?_
  rw [rounds_succ]
  go_wp2
  rw [rounds_succ]
  go_wp2
  go_ret
  exact ⟨rfl, rfl⟩

/-! ### fmt.Errorf("frame %d: %w", n, err), err of errors.New's make: over the stop that calls its operands' methods: none is called here. -/
theorem call25 (args : Array Value) (w : World) : (callFunc 25 args).run Ybaf.prog w = (FmtCalls.errorf #[9, 85] #[34] args).run Ybaf.prog w :=
  run_callFunc_next Ybaf.func25 (by kernel_rfl) (by kernel_rfl) (by kernel_rfl) args w
theorem fGuard (name : String) (w : World) : (FmtStop.guard name).run Ybaf.prog w = .ok () w := by kernel_rfl
theorem nextTurns : Extern.next FmtCalls.turnsRow = some (FmtCalls.begun #[] #[]) := by kernel_rfl
theorem fmt0r (w : World) : (FmtDoors.printed ⟨#[102, 114, 97, 109, 101, 32, 37, 100, 58, 32, 37, 119]⟩ 2).run Ybaf.prog w = .ok [(0, 100, false), (1, 119, false)] w := by kernel_rfl
theorem act3 (name : String) (x : Value) (w : World) : (FmtCalls.act name true 100 false (.iface 3 x)).run Ybaf.prog w = .ok (.closed true) w := by kernel_rfl
theorem act75 (name : String) (x : Value) (w : World) : (FmtCalls.act name true 119 false (.iface 75 x)).run Ybaf.prog w = .ok (.closed true) w := by kernel_rfl
theorem isError75 (w : World) : (FmtDoors.textMethod 75 "Error").run Ybaf.prog w = .ok true w := by kernel_rfl
theorem ptr86 (w : World) : (FmtStop.ptrTo "fmt.wrapError").run Ybaf.prog w = .ok 86 w := by kernel_rfl
theorem elem86 (w : World) : (elemOf 86).run Ybaf.prog w = .ok 360 w := by kernel_rfl
theorem op3 (name : String) (x : Int) (w : World) : ∃ sh, (FmtStop.operand name true 100 false (.iface 3 (.int .i64 x))).run Ybaf.prog w = .ok (sh, Go.Extern.Stop.digits 8 (x % 2 ^ 64).toNat) w := ⟨[5, 3, 0, 0, 0, 0, 0, 0, 0, 105, 110, 116], by kernel_rfl⟩
theorem opPlain75 (name : String) (a : Addr) (s : ByteArray) (w : World) (hc : w.cell? a = some (.string s)) :
    (FmtStop.operand name true 119 false (.iface 75 (.pointer (some a)))).run Ybaf.prog w = .ok (14 :: FmtStop.pack Ybaf.t75.str.toUTF8.data.toList, s.data.toList) w := by
  have h1 : (typeStr 75).run Ybaf.prog w = .ok Ybaf.t75.str w := by kernel_rfl
  have d2 : Ybaf.t75.desc = .pointer 77 := rfl
  have d3 : Ybaf.t77.desc = .named "errors.errorString" 76 := rfl
  simp [FmtStop.operand, h1, d2, d3, run_load, hc]

set_option maxHeartbeats 800000 in
theorem errorf_any (F : Interp) (n : Int) (blk : Nat) (a : Addr) (s : ByteArray) (w : World) (hF : F.answers w.tape)
    (hc0 : w.cell? ⟨blk, 0, none⟩ = some (.iface 3 (.int .i64 n))) (hc1 : w.cell? ⟨blk, 1, none⟩ = some (.iface 75 (.pointer (some a)))) (ha : w.cell? a = some (.string s)) :
    Calls Ybaf.prog 20 #[.string ⟨#[102, 114, 97, 109, 101, 32, 37, 100, 58, 32, 37, 119]⟩, .slice (some ⟨blk, 0, none⟩) 2 2] w fun e w' =>
      e = .returned (.iface 86 (.pointer (some ⟨w.heap.size, 0, none⟩))) ∧ ∃ t, w' = (w.alloc (.cells #[.string t, .iface 75 (.pointer (some a))] 360)).drew := by
  have hF' := answers_open hF
  have k1 := call25
  have k2 := fGuard
  have k3 := fmt0r
  have k4 := act3
  have k5 := act75
  have k6 := isError75
  have k7 := ptr86
  have k8 := elem86
  obtain ⟨sh, k9⟩ := op3 "fmt.errorf" n w
  have k10 := opPlain75 "fmt.errorf" a s w ha
  go_enter Ybaf.func20, Ybaf.ntmps20
  go_wp2
  apply rows_value nextTurns
  case hr =>
    go_simp
    exact ⟨rfl, rfl⟩
  case h =>
    go_wp2
    go_ret
    exact ⟨rfl, _, rfl⟩
end Go.Proofs.YbulkbmguFmt
