/-
  THE WALKS of kinkwell.LawS2623CWrap: the closed facts over fmt's stopped front (after the guide's PortFmt / SentryIs, at this dump's numbers), errors.Is through one wrap, (object).wrap, the law. For every F.
-/
import Derived.Test.YbulkbbhkFmtRows
import Derived.WalkKit
import Derived.WalkSpells
import Derived.LaidEql
import Derived.RowKitTokens
import Derived.RowKit3
import Derived.Stop.Asserts
import Derived.Stop.CallBack
import Derived.Stop.IfaceNil
import Derived.Stop.Texts
import Derived.Deep.RegionWith
namespace Go.Proofs.YbulkbbhkFmt
open Go.RowKit Go.Extern.Stop Go.Stop Go.Extern

/-! ### fmt.errorf: a stop that calls its operands' Error() -/
theorem Ybaf.call22 (args : Array Value) (w : World) : (callFunc 22 args).run Ybaf.prog w = (FmtCalls.errorf #[9, 67] #[31] args).run Ybaf.prog w :=
  run_callFunc_next Ybaf.func22 (by kernel_rfl) (by kernel_rfl) (by kernel_rfl) args w
theorem Ybaf.guard (name : String) (w : World) : (FmtStop.guard name).run Ybaf.prog w = .ok () w := by kernel_rfl
theorem Ybaf.nextTurns : Extern.next FmtCalls.turnsRow = some (FmtCalls.begun #[] #[]) := by kernel_rfl
theorem Ybaf.nextReturned : Extern.next FmtCalls.returnedRow = some (FmtCalls.returned #[] #[]) := by kernel_rfl
theorem Ybaf.fmt0 : FmtStop.printed? ⟨#[37, 115, 58, 32, 37, 119]⟩ 2 = some [(0, 115, false), (1, 119, false)] := by kernel_rfl
theorem Ybaf.fmt0r (w : World) : (FmtDoors.printed ⟨#[37, 115, 58, 32, 37, 119]⟩ 2).run Ybaf.prog w = .ok [(0, 115, false), (1, 119, false)] w := by kernel_rfl
theorem Ybaf.fmt1 : FmtStop.printed? ⟨#[37, 115, 58, 32, 37, 119]⟩ 0 = some [] := by kernel_rfl
theorem Ybaf.fmt1r (w : World) : (FmtDoors.printed ⟨#[37, 115, 58, 32, 37, 119]⟩ 0).run Ybaf.prog w = .ok [] w := by kernel_rfl
def Ybaf.shape9 : List UInt8 := [12, 6, 0, 0, 0, 0, 0, 0, 0, 115, 116, 114, 105, 110, 103]
theorem Ybaf.act9_115w (name : String) (x : Value) (w : World) : (FmtCalls.act name true 115 false (.iface 9 x)).run Ybaf.prog w = .ok (.closed true) w := by kernel_rfl
theorem Ybaf.op9_115w (name : String) (x : ByteArray) (w : World) : (FmtStop.operand name true 115 false (.iface 9 (.string x))).run Ybaf.prog w = .ok (Ybaf.shape9, FmtStop.pack x.data.toList) w := by kernel_rfl
theorem Ybaf.str9 (w : World) : (typeStr 9).run Ybaf.prog w = .ok "string" w := by kernel_rfl
theorem Ybaf.act37_119w (name : String) (x : Value) (w : World) : (FmtCalls.act name true 119 false (.iface 37 x)).run Ybaf.prog w = .ok (.call true) w := by kernel_rfl
theorem Ybaf.isError37 (w : World) : (FmtDoors.textMethod 37 "Error").run Ybaf.prog w = .ok true w := by kernel_rfl
theorem Ybaf.invokeError37 (x : Value) (w : World) : (invoke (.fn (.method "Error") #[]) #[.iface 37 x]).run Ybaf.prog w = .ok (.enter 77 #[x]) w := by kernel_rfl
theorem Ybaf.str37 (w : World) : (typeStr 37).run Ybaf.prog w = .ok Ybaf.t37.str w := by kernel_rfl
theorem Ybaf.ptr68 (w : World) : (FmtStop.ptrTo "fmt.wrapError").run Ybaf.prog w = .ok 68 w := by kernel_rfl
theorem Ybaf.elem68 (w : World) : (elemOf 68).run Ybaf.prog w = .ok 144 w := by kernel_rfl
theorem Ybaf.isError68 (w : World) : (FmtDoors.textMethod 68 "Error").run Ybaf.prog w = .ok true w := by kernel_rfl
attribute [local go_sem] Ybaf.call22 Ybaf.guard Ybaf.fmt0 Ybaf.fmt0r Ybaf.fmt1 Ybaf.fmt1r Ybaf.act9_115w Ybaf.op9_115w Ybaf.str9 Ybaf.act37_119w Ybaf.isError37 Ybaf.str37 Ybaf.ptr68 Ybaf.elem68 Ybaf.isError68

/-- WHAT fmt IS ASKED. -/
def reading (nm s said : List UInt8) : List (List UInt8) :=
  [[37, 115, 58, 32, 37, 119], Ybaf.shape9, FmtStop.pack s, 19 :: 0 :: FmtStop.pack nm, said]

/-- (*zzs2623cerr).Error: the text that lies there. -/
theorem errText_any (a : Addr) (t : ByteArray) (w : World) (h : w.cell? a = some (.string t)) :
    Calls Ybaf.prog 77 #[.pointer (some a)] w fun e w' => e = .returned (.string t) ∧ w' = w := by
  go_enter Ybaf.func77, Ybaf.ntmps77
  go_wp2
  go_ret
  exact ⟨rfl, rfl⟩

set_option maxRecDepth 100000 in
set_option maxHeartbeats 800000 in
/-- fmt.Errorf("%s: %w", s, err) BY ITS CONTRACT. -/
theorem errorf_n (F : Interp) (s t : ByteArray) (a : Addr) (blk : Nat) (w : World) (hF : F.answers w.tape)
    (hc0 : w.cell? ⟨blk, 0, none⟩ = some (.iface 9 (.string s))) (hc1 : w.cell? ⟨blk, 1, none⟩ = some (.iface 37 (.pointer (some a)))) (ha : w.cell? a = some (.string t)) :
    Calls Ybaf.prog 13 #[.string ⟨#[37, 115, 58, 32, 37, 119]⟩, .slice (some ⟨blk, 0, none⟩) 2 2] w fun e w' =>
      e = .returned (.iface 68 (.pointer (some ⟨w.heap.size, 0, none⟩))) ∧
        w' = (w.alloc (.cells #[.string (FmtStop.textOf (F "fmt.errorf" (reading Ybaf.t37.str.toByteArray.data.toList s.data.toList t.data.toList) 0)), .iface 37 (.pointer (some a))] 144)).drew := by
  have hF' := answers_open hF
  go_enter Ybaf.func13, Ybaf.ntmps13
  go_wp2
  apply rows_call Ybaf.nextTurns
  case hr =>
    go_simp
    exact ⟨⟨rfl, rfl, rfl⟩, rfl⟩
  case hi => exact Ybaf.invokeError37 _ _
  case hc =>
    refine (errText_any a t _ ha).mono fun e w₃ ⟨he, hx⟩ => ?_
    subst he; subst hx
    apply rows_value Ybaf.nextReturned
    case hr =>
      go_simp
      exact ⟨rfl, rfl⟩
    case h =>
      go_wp2
      go_ret
      exact ⟨rfl, rfl⟩

/-! ### errors.Is through one wrap -/
theorem Ybaf.isTypeOf (v : Value) (w : World) : (Extern.ReflectliteType.typeOf #[.iface 37 v]).run Ybaf.prog w = .ok (.iface 70 (.agg #[.pointer (some ⟨12, 37, none⟩)])) w := by kernel_rfl
def cmpX : Array Value → Sem Value := Extern.ReflectliteType.method fun t => do Extern.Rtype.noPackHeld "Comparable" t; pure (.bool (← typeInfo t).comparable)
theorem Ybaf.isComparable (w : World) : (cmpX #[.agg #[.pointer (some ⟨12, 37, none⟩)]]).run Ybaf.prog w = .ok (.bool true) w := by kernel_rfl
theorem Ybaf.isMethodComparable (v : Value) (w : World) : (Go.method 256 70 v "Comparable").run Ybaf.prog w = .ok (86, v) w := by kernel_rfl
theorem Ybaf.methodUnwrap (v : Value) (w : World) : (Go.method 256 68 v "Unwrap").run Ybaf.prog w = .ok (83, v) w := by kernel_rfl
theorem Ybaf.isComp : (Ybaf.prog.info? 37).map (·.comparable) = some true := by kernel_rfl
theorem Ybaf.isSize : (Ybaf.prog.info? 39).map (·.size) = some 1 := by kernel_rfl
theorem Ybaf.noIsW (v : Value) (xT : TypeId) (w : World) : (Instr.typeAssert (.iface 68 v) xT 72 true).run Ybaf.prog w = .ok (.tuple #[.nilIface, .bool false]) w := run_typeAssert_lacksB Ybaf.underlying72 (by kernel_rfl) (by kernel_rfl) v xT w
theorem Ybaf.hasUnwrapW (v : Value) (xT : TypeId) (w : World) : (Instr.typeAssert (.iface 68 v) xT 75 true).run Ybaf.prog w = .ok (.tuple #[.iface 68 v, .bool true]) w := run_typeAssert_hasB Ybaf.underlying75 (by kernel_rfl) v xT w
set_option maxRecDepth 100000 in
set_option maxHeartbeats 400000 in
theorem is_wrap_same (pb po : Nat) (b : Addr) (w : World) (h1 : w.cell? ⟨pb, po + 1, none⟩ = some (.iface 37 (.pointer (some b)))) :
    Calls Ybaf.prog 10 #[.iface 68 (.pointer (some ⟨pb, po, none⟩)), .iface 37 (.pointer (some b))] w fun e w' => e = .returned (.bool true) ∧ w' = w := by
  obtain ⟨i, hi, hcmp⟩ := Option.map_eq_some_iff.1 Ybaf.isComp
  obtain ⟨j, hj, hjs⟩ := Option.map_eq_some_iff.1 Ybaf.isSize
  have h8 := @run_callFunc_extern Ybaf.prog 14 _ Extern.ReflectliteType.typeOf Ybaf.func14 (by kernel_rfl) (by kernel_rfl) (by kernel_rfl) (by kernel_rfl)
  have h32 := @run_callFunc_extern Ybaf.prog 86 _ cmpX Ybaf.func86 (by kernel_rfl) (by kernel_rfl) (by kernel_rfl) (by kernel_rfl)
  have tT := Ybaf.isTypeOf
  have cT := Ybaf.isComparable
  have mR := Ybaf.isMethodComparable
  have mU := Ybaf.methodUnwrap
  have nW := Ybaf.noIsW
  have uW := Ybaf.hasUnwrapW
  have heq := run_eql_iface_ptr_same (P := Ybaf.prog) w b Ybaf.underlying31 Ybaf.underlying37 hi hcmp hj
  have hty := run_eql_iface_types (P := Ybaf.prog) 68 37 (.pointer (some ⟨pb, po, none⟩)) (.pointer (some b)) Ybaf.underlying31 (by decide) w
  go_enter Ybaf.func10, Ybaf.ntmps10
  go_wp2
  refine wp_loop_rounds 2 ?_
  rw [rounds_succ]
  go_wp2
  rw [rounds_succ]
  go_wp2
  go_ret
  exact ⟨rfl, rfl⟩

/-! ### The law -/
theorem neq_iface_types {P : Program} {ti : TypeId} {ms : Array (String × TypeId)} (tx ty : TypeId) (vx vy : Value) (hi : P.underlying ti = some (.interface ms)) (hne : tx ≠ ty) (w : World) :
    (binOp .neq ti (.iface tx vx) (.iface ty vy)).run P w = .ok (.bool true) w := by
  have h : ∀ d : Nat, (Op.equalIn (d + 1) ti (.iface tx vx) (.iface ty vy)).run P w = .ok false w := fun d => by simp [Op.equalIn, run_underlying hi, hne]
  simp only [binOp]
  simp [Op.equal, Op.maxDepth, h 9999]
set_option maxRecDepth 100000 in
set_option maxHeartbeats 800000 in
theorem law_top (path msg : ByteArray) (w : World) (hp : path.toList.isEmpty = true) :
    Calls Ybaf.prog 4 #[.string path, .string msg] w fun e w' => e = .returned (.bool true) ∧ Grown w w' := by
  obtain ⟨i, hi, hcmp⟩ := Option.map_eq_some_iff.1 Ybaf.isComp
  obtain ⟨j, hj, hjs⟩ := Option.map_eq_some_iff.1 Ybaf.isSize
  have heq := fun w' b => run_eql_iface_ptr_same (P := Ybaf.prog) w' b Ybaf.underlying31 Ybaf.underlying37 hi hcmp hj
  clear hi hcmp hj hjs
  go_enter Ybaf.func4, Ybaf.ntmps4
  go_wp2
  go_ret
  exact ⟨rfl, by repeat (first | exact Grown.refl _ | apply Grown.drew | apply Grown.alloc)⟩
set_option maxRecDepth 100000 in
set_option maxHeartbeats 800000 in
theorem law_deep (F : Interp) (path msg : ByteArray) (w : World) (hF : F.answers w.tape) (hp : path.toList.isEmpty = false) :
    Calls Ybaf.prog 4 #[.string path, .string msg] w fun e w' => e = .returned (.bool true) ∧ Grown w w' := by
  have hneq := fun w' a b => neq_iface_types (P := Ybaf.prog) 68 37 (.pointer a) (.pointer b) Ybaf.underlying31 (by decide) w'
  go_enter Ybaf.func4, Ybaf.ntmps4
  go_wp2_with (go_at_call 9; go_in)
  refine (errorf_n F path msg ⟨w.heap.size, 0, none⟩ (w.heap.size + 1 + 1 + 1) _ ?_ ?_ ?_ ?_).mono ?_
  · exact hF
  · go_simp
  · go_simp
  · go_simp
  rintro e w' ⟨rfl, rfl⟩
  go_wp2_with fail
  refine (is_wrap_same _ _ _ _ ?_).mono ?_
  · go_simp
  rintro e w' ⟨rfl, rfl⟩
  go_wp2
  all_goals go_ret
  all_goals exact ⟨rfl, by repeat (first | exact Grown.refl _ | apply Grown.drew | apply Grown.alloc)⟩
end Go.Proofs.YbulkbbhkFmt
