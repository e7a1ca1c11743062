/-
  THE CONTRACTS of validation.claim (9), errors.New (10), validation.running (11), validation.failed (12).
-/
import Derived.Test.YbulkozgRows
import Derived.Test.YbulkozgPMap
import Derived.WalkKit
import Derived.WalkSpells
import Derived.WalkLawsBesides
namespace Go.Proofs.Ybulkozg
open Go.RowKit
set_option maxRecDepth 100000 in
set_option maxHeartbeats 400000 in
theorem claim_any (vb mb : Nat) (dv bv : Value) (w w1 : World) (hc : w.cell? ⟨vb, 0, none⟩ = some (.map (some mb)))
    (hu : (Instr.mapUpdate 45 (.map (some mb)) dv bv).run Yba.prog w = .ok () w1) :
    Calls Yba.prog 9 #[.pointer (some ⟨vb, 0, none⟩), dv, bv] w fun e w' => e = .returned (.tuple #[]) ∧ w1 = w' := by
  go_enter Yba.func9, Yba.ntmps9
  go_wp2
  go_end0
  exact ⟨rfl, rfl⟩

theorem info26 : ∃ i, Yba.prog.info? 58 = some i ∧ i.size ≠ 0 := by
  have h : (Yba.prog.info? 58).map (·.size) = some 6 := by kernel_rfl
  cases hi : Yba.prog.info? 58 with
  | none => rw [hi] at h; cases h
  | some i => rw [hi] at h; simp at h; exact ⟨i, rfl, by omega⟩

theorem info34 : ∃ i, Yba.prog.info? 34 = some i ∧ i.size ≠ 0 := by
  have h : (Yba.prog.info? 34).map (·.size) = some 13 := by kernel_rfl
  cases hi : Yba.prog.info? 34 with
  | none => rw [hi] at h; cases h
  | some i => rw [hi] at h; simp at h; exact ⟨i, rfl, by omega⟩

theorem info47 : ∃ i, Yba.prog.info? 47 = some i ∧ i.size ≠ 0 := by
  have h : (Yba.prog.info? 47).map (·.size) = some 2 := by kernel_rfl
  cases hi : Yba.prog.info? 47 with
  | none => rw [hi] at h; cases h
  | some i => rw [hi] at h; simp at h; exact ⟨i, rfl, by omega⟩

theorem neq28 (a : Addr) (w : World) : (binOp .neq 28 (.pointer (some a)) (.pointer (some a))).run Yba.prog w = .ok (.bool false) w := by
  obtain ⟨i, hi, _⟩ := info47
  exact run_neq_ptr_same Yba.underlying28 hi a
theorem eql24 (a : Addr) (w : World) : (binOp .eql 24 (.pointer (some a)) (.pointer (some a))).run Yba.prog w = .ok (.bool true) w := by
  obtain ⟨i, hi, _⟩ := info34
  exact run_eql_ptr_same Yba.underlying24 hi a
theorem neq24 (a : Addr) (w : World) : (binOp .neq 24 (.pointer (some a)) (.pointer (some a))).run Yba.prog w = .ok (.bool false) w := by
  obtain ⟨i, hi, _⟩ := info34
  exact run_neq_ptr_same Yba.underlying24 hi a

theorem zero24 (w : World) : (zeroValue 24).run Yba.prog w = .ok (.pointer none) w := by kernel_rfl

theorem pmap_look {w : World} {b n : Nat} {f : Addr → Option Value} (h : PMap w b n f) (p : Addr) (hp : Plain w p) (ok : Bool) :
    (Instr.lookup 45 (.map (some b)) (.pointer (some p)) ok).run Yba.prog w = .ok (if ok then .tuple #[(f p).getD (.pointer none), .bool (f p).isSome] else (f p).getD (.pointer none)) w := by
  obtain ⟨i, hi, hs⟩ := info26
  exact h.look Yba.underlying45 Yba.underlying26 hi hs (zero24 w) p hp ok

theorem pmap_store {w : World} {b n : Nat} {f : Addr → Option Value} (h : PMap w b n f) (p : Addr) (hp : Plain w p) (v : Value) :
    ∃ w', (Instr.mapUpdate 45 (.map (some b)) (.pointer (some p)) v).run Yba.prog w = .ok () w' ∧ PMap w' b (if (f p).isSome then n else n + 1) (fun q => if q = p then some v else f q) ∧ MapTurned w w' b := by
  obtain ⟨i, hi, hs⟩ := info26
  exact h.store Yba.underlying45 Yba.underlying26 hi hs p hp v

theorem claim_pmap (vb mb n : Nat) (f : Addr → Option Value) (p : Addr) (v : Value) (w : World) (h : PMap w mb n f) (hp : Plain w p) (hc : w.cell? ⟨vb, 0, none⟩ = some (.map (some mb))) :
    Calls Yba.prog 9 #[.pointer (some ⟨vb, 0, none⟩), .pointer (some p), v] w fun e w' => e = .returned (.tuple #[]) ∧ PMap w' mb (if (f p).isSome then n else n + 1) (fun q => if q = p then some v else f q) ∧ MapTurned w w' mb := by
  obtain ⟨w1, hu, h1, h2⟩ := pmap_store h p hp v
  refine (claim_any vb mb _ v w w1 hc hu).mono ?_
  rintro e w' ⟨rfl, rfl⟩
  exact ⟨rfl, h1, h2⟩

set_option maxRecDepth 100000 in
set_option maxHeartbeats 400000 in
theorem running_any (vb mb : Nat) (w : World) (hc : w.cell? ⟨vb, 0, none⟩ = some (.map (some mb))) :
    Calls Yba.prog 11 #[.pointer (some ⟨vb, 0, none⟩)] w fun e w' => e = .returned (.pointer (some ⟨vb, 0, none⟩)) ∧ w = w' := by
  have hq := fun w => run_eql_map_nil (P := Yba.prog) w 45 26 24 (some mb) Yba.underlying45
  go_enter Yba.func11, Yba.ntmps11
  go_wp2
  go_ret
  exact ⟨rfl, rfl⟩

set_option maxRecDepth 100000 in
set_option maxHeartbeats 400000 in
theorem failed_yes (vb mb bb : Nat) (u : TypeId) (x : Value) (dv : Value) (w : World) (hc : w.cell? ⟨vb, 0, none⟩ = some (.map (some mb)))
    (hl : (Instr.lookup 45 (.map (some mb)) dv false).run Yba.prog w = .ok (.pointer (some ⟨bb, 0, none⟩)) w)
    (h7 : w.cell? ⟨bb, 7, none⟩ = some (.bool true)) (h9 : w.cell? ⟨bb, 9, none⟩ = some (.iface u x)) :
    Calls Yba.prog 12 #[.pointer (some ⟨vb, 0, none⟩), dv] w fun e w' => e = .returned (.pointer (some ⟨bb, 0, none⟩)) ∧ w = w' := by
  go_enter Yba.func12, Yba.ntmps12
  go_wp2
  go_ret
  exact ⟨rfl, rfl⟩

set_option maxRecDepth 100000 in
set_option maxHeartbeats 400000 in
theorem failed_noerr (vb mb bb : Nat) (dv : Value) (w : World) (hc : w.cell? ⟨vb, 0, none⟩ = some (.map (some mb)))
    (hl : (Instr.lookup 45 (.map (some mb)) dv false).run Yba.prog w = .ok (.pointer (some ⟨bb, 0, none⟩)) w)
    (h7 : w.cell? ⟨bb, 7, none⟩ = some (.bool true)) (h9 : w.cell? ⟨bb, 9, none⟩ = some .nilIface) :
    Calls Yba.prog 12 #[.pointer (some ⟨vb, 0, none⟩), dv] w fun e w' => e = .returned (.pointer none) ∧ w = w' := by
  go_enter Yba.func12, Yba.ntmps12
  go_wp2
  go_ret
  exact ⟨rfl, rfl⟩

set_option maxRecDepth 100000 in
set_option maxHeartbeats 400000 in
theorem failed_unfinished (vb mb bb : Nat) (dv : Value) (w : World) (hc : w.cell? ⟨vb, 0, none⟩ = some (.map (some mb)))
    (hl : (Instr.lookup 45 (.map (some mb)) dv false).run Yba.prog w = .ok (.pointer (some ⟨bb, 0, none⟩)) w)
    (h7 : w.cell? ⟨bb, 7, none⟩ = some (.bool false)) :
    Calls Yba.prog 12 #[.pointer (some ⟨vb, 0, none⟩), dv] w fun e w' => e = .returned (.pointer none) ∧ w = w' := by
  go_enter Yba.func12, Yba.ntmps12
  go_wp2
  go_ret
  exact ⟨rfl, rfl⟩
end Go.Proofs.Ybulkozg
