import Derived.Test.YbulkozgFmtChecked
import Derived.WalkKit
import Derived.WalkSpells
import Derived.BigCall
import Derived.Deep.DeepFit
import Derived.Deep.RegionWith
import Derived.RowKitTokens
import Derived.Below
/-!
atomic.Bool: Store(true) and Load.
-/
namespace Go.Proofs.YbulkozgFmt
open Go.RowKit

/-- Two worlds that differ in the count of draws alone. -/
structure Like (w' w : World) : Prop where
  heap : w'.heap = w.heap
  os : w'.os = w.os
  tape : w'.tape = w.tape
  output : w'.output = w.output
theorem Like.cell {w' w : World} (h : Like w' w) (a : Addr) : w'.cell? a = w.cell? a := by simp only [World.cell?, h.heap]
theorem Like.below {w' w : World} (h : Like w' w) (B : Nat) : Below B w w' := ⟨h.os, h.tape, h.output, by rw [h.heap]; exact Nat.le_refl _, fun k _ => by rw [h.heap]⟩

theorem run_load32 (a : Addr) (v : Int) (w : World) (hc : w.cell? a = some (.int .u32 v)) : (Extern.Atomic.loadT (.int .u32) #[.pointer (some a)]).run Ybaf.prog w = .ok (.int .u32 v) w := by
  show ((do Extern.Atomic.read (.int .u32) (← asAddr (.pointer (some a)))) : Sem Value).run Ybaf.prog w = _
  simp [Extern.Atomic.read, asAddr, hc, Result.andThen]
theorem run_store32 (a : Addr) (x v : Value) (w : World) (hc : w.cell? a = some x) (hz : w.frozen? a = false) (hv : Hid (v = .int .u32 1)) : (Extern.Atomic.storeT #[.pointer (some a), v]).run Ybaf.prog w = .ok (.tuple #[]) (w.setCell a v) := by
  obtain rfl := hv.out
  show ((do store (← asAddr (.pointer (some a))) (.int .u32 1) .atomic; pure Extern.Atomic.none_) : Sem Value).run Ybaf.prog w = _
  simp [asAddr, run_store Ybaf.prog w a (.int .u32 1) .atomic rfl, hc, hz, Result.andThen, Extern.Atomic.none_]

theorem load_closed (b off : Nat) (v : Int) (w : World) (hc : w.cell? ⟨b, off, none⟩ = some (.int .u32 v)) :
    Calls Ybaf.prog 16 #[.pointer (some ⟨b, off, none⟩)] w fun e w' => e = .returned (.bool (v != 0)) ∧ w' = w := by
  have h28 := @run_callFunc_extern Ybaf.prog 28 _ (Extern.Atomic.loadT (.int .u32)) Ybaf.func28 (by kernel_rfl) (by kernel_rfl) (by kernel_rfl) (by kernel_rfl)
  have hl := run_load32 ⟨b, off, none⟩ v w hc
  go_enter Ybaf.func16, Ybaf.ntmps16
  go_wp2
  go_ret
  exact ⟨rfl, rfl⟩

theorem b32_true (w : World) : Calls Ybaf.prog 9 #[.bool true] w fun e w' => e = .returned (.int .u32 1) ∧ w' = w := by
  go_enter Ybaf.func9, Ybaf.ntmps9
  go_wp2
  go_ret
  exact ⟨rfl, rfl⟩

theorem store_true (b off : Nat) (x : Value) (w : World) (hc : w.cell? ⟨b, off, none⟩ = some x) (hz : w.frozen? ⟨b, off, none⟩ = false) :
    Calls Ybaf.prog 4 #[.pointer (some ⟨b, off, none⟩), .bool true] w fun e w' => e = .returned (.tuple #[]) ∧ Like w' (w.setCell ⟨b, off, none⟩ (.int .u32 1)) := by
  have h8 := @run_callFunc_extern Ybaf.prog 8 _ Extern.Atomic.storeT Ybaf.func8 (by kernel_rfl) (by kernel_rfl) (by kernel_rfl) (by kernel_rfl)
  have s1 := run_store32 ⟨b, off, none⟩ x (.int .u32 1) w hc hz rfl
  have s2 := run_store32 ⟨b, off, none⟩ x (.int .u32 1) w.drew hc hz rfl
  go_enter Ybaf.func4, Ybaf.ntmps4
  go_region_with (go_at_call 9; refine (b32_true _).mono ?_; rintro e w' ⟨rfl, rfl⟩)
  all_goals (try go_wp2)
  all_goals (go_end0; exact ⟨rfl, rfl, rfl, rfl, rfl⟩)
end Go.Proofs.YbulkozgFmt
