import Derived.Test.YbulkozgFmtChecked
import Derived.WalkKit
import Derived.WalkSpells
import Derived.BigCall
import Derived.Deep.DeepFit
import Derived.Deep.RegionWith
import Derived.RowKitTokens
import Derived.Stop.CallBack
import Derived.Stop.IfaceNil
import GoSem.ClaimData
/-!
fmt.Errorf("%w: parameter %q", SENTINEL, name) by its contract over the stop that calls (neither operand's method is run).
-/
namespace Go.Proofs
open Go.Extern.Stop Go.Stop Go.Extern

@[go_sem] theorem Ybaf.call29 (args : Array Value) (w : World) : (callFunc 29 args).run Ybaf.prog w = (FmtCalls.errorf #[9, 116] #[62] args).run Ybaf.prog w :=
  run_callFunc_next Ybaf.func29 (by kernel_rfl) (by kernel_rfl) (by kernel_rfl) args w
@[go_sem] theorem Ybaf.guard (name : String) (w : World) : (FmtStop.guard name).run Ybaf.prog w = .ok () w := by kernel_rfl
theorem Ybaf.nextTurns : Extern.next FmtCalls.turnsRow = some (FmtCalls.begun #[] #[]) := by kernel_rfl
theorem Ybaf.nextReturned : Extern.next FmtCalls.returnedRow = some (FmtCalls.returned #[] #[]) := by kernel_rfl
@[go_sem] theorem Ybaf.fmt0 : FmtStop.printed? ⟨#[37, 119, 58, 32, 112, 97, 114, 97, 109, 101, 116, 101, 114, 32, 37, 113]⟩ 2 = some [(0, 119, false), (1, 113, false)] := by kernel_rfl
@[go_sem] theorem Ybaf.fmt0r (w : World) : (FmtDoors.printed ⟨#[37, 119, 58, 32, 112, 97, 114, 97, 109, 101, 116, 101, 114, 32, 37, 113]⟩ 2).run Ybaf.prog w = .ok [(0, 119, false), (1, 113, false)] w := by kernel_rfl

theorem Ybaf.name9 : Ybaf.prog.typeName? 3 9 = some "string" := by kernel_rfl
def Ybaf.shape9 : List UInt8 := [12, 6, 0, 0, 0, 0, 0, 0, 0, 115, 116, 114, 105, 110, 103]
@[go_sem] theorem Ybaf.act9_113w (name : String) (x : Value) (w : World) : (FmtCalls.act name true 113 false (.iface 9 x)).run Ybaf.prog w = .ok (.closed true) w := by kernel_rfl
@[go_sem] theorem Ybaf.act9_113 (name : String) (x : Value) (w : World) : (FmtCalls.act name false 113 false (.iface 9 x)).run Ybaf.prog w = .ok (.closed false) w := by kernel_rfl
@[go_sem] theorem Ybaf.op9_113w (name : String) (x : ByteArray) (w : World) : (FmtStop.operand name true 113 false (.iface 9 (.string x))).run Ybaf.prog w = .ok (Ybaf.shape9, FmtStop.pack x.data.toList) w := by kernel_rfl
@[go_sem] theorem Ybaf.op9_113 (name : String) (x : ByteArray) (w : World) : (FmtStop.operand name false 113 false (.iface 9 (.string x))).run Ybaf.prog w = .ok (Ybaf.shape9, FmtStop.pack x.data.toList) w := by kernel_rfl
@[go_sem] theorem Ybaf.str9 (w : World) : (typeStr 9).run Ybaf.prog w = .ok "string" w := by kernel_rfl

@[go_sem] theorem Ybaf.ptr133 (w : World) : (FmtStop.ptrTo "errors.errorString").run Ybaf.prog w = .ok 133 w := by kernel_rfl
@[go_sem] theorem Ybaf.elem133 (w : World) : (elemOf 133).run Ybaf.prog w = .ok 135 w := by kernel_rfl
@[go_sem] theorem Ybaf.isError133 (w : World) : (FmtDoors.textMethod 133 "Error").run Ybaf.prog w = .ok true w := by kernel_rfl
/-- The name of the type of a pointer to an errors.errorString. -/
def nameE (P : Program) : String := (P.typeName? 3 133).getD ""
@[go_sem] theorem Ybaf.str133 (w : World) : (typeStr 133).run Ybaf.prog w = .ok (nameE Ybaf.prog) w := by kernel_rfl
def plainE (P : Program) : List UInt8 := 14 :: FmtStop.pack (nameE P).toUTF8.data.toList
theorem Ybaf.opPlain133_119w (name : String) (a : Addr) (s : ByteArray) (w : World) (hc : w.cell? a = some (.string s)) :
    (FmtStop.operand name true 119 false (.iface 133 (.pointer (some a)))).run Ybaf.prog w = .ok (plainE Ybaf.prog, s.data.toList) w := by
  have h1 := Ybaf.str133 w
  have d2 : Ybaf.t133.desc = .pointer 135 := rfl
  have d3 : Ybaf.t135.desc = .named "errors.errorString" 134 := rfl
  simp [FmtStop.operand, h1, d2, d3, run_load, hc, plainE]
@[go_sem] theorem Ybaf.actPlain133_119w (name : String) (x : Value) (w : World) : (FmtCalls.act name true 119 false (.iface 133 x)).run Ybaf.prog w = .ok (.closed true) w := by kernel_rfl
@[go_sem] theorem Ybaf.ptr118 (w : World) : (FmtStop.ptrTo "fmt.wrapError").run Ybaf.prog w = .ok 118 w := by kernel_rfl
@[go_sem] theorem Ybaf.elem118 (w : World) : (elemOf 118).run Ybaf.prog w = .ok 196 w := by kernel_rfl

namespace YbulkozgFmt
open Go.RowKit

/-- WHAT fmt IS ASKED. -/
def fReading (P : Program) (said s : List UInt8) : List (List UInt8) :=
  [[37, 119, 58, 32, 112, 97, 114, 97, 109, 101, 116, 101, 114, 32, 37, 113], plainE P, said, Ybaf.shape9, FmtStop.pack s]

set_option maxHeartbeats 800000 in
/-- fmt.Errorf("%w: parameter %q", x, s), x a pointer to an errors.errorString. -/
theorem errorf_n (F : Interp) (s t : ByteArray) (blk : Nat) (a : Addr) (w : World) (hF : F.answers w.tape)
    (hc0 : w.cell? ⟨blk, 0, none⟩ = some (.iface 133 (.pointer (some a)))) (hc1 : w.cell? ⟨blk, 1, none⟩ = some (.iface 9 (.string s)))
    (ha : w.cell? a = some (.string t)) :
    Calls Ybaf.prog 17 #[.string ⟨#[37, 119, 58, 32, 112, 97, 114, 97, 109, 101, 116, 101, 114, 32, 37, 113]⟩, .slice (some ⟨blk, 0, none⟩) 2 2] w fun e w' =>
      e = .returned (.iface 118 (.pointer (some ⟨w.heap.size, 0, none⟩))) ∧
        w' = (w.alloc (.cells #[.string (FmtStop.textOf (F "fmt.errorf" (fReading Ybaf.prog t.data.toList s.data.toList) 0)), .iface 133 (.pointer (some a))] 196)).drew := by
  have hF' := answers_open hF
  have hop := Ybaf.opPlain133_119w "fmt.errorf" a t _ ha
  go_enter Ybaf.func17, Ybaf.ntmps17
  go_wp2
  apply rows_value Ybaf.nextTurns
  case hr =>
    go_simp
    exact ⟨rfl, rfl⟩
  case h =>
    go_wp2
    go_ret
    exact ⟨rfl, rfl⟩
end YbulkozgFmt
end Go.Proofs
