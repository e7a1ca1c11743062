import Derived.Test.YbulkozgFmtChecked
import Derived.WalkKit
import Derived.WalkSpells
import Derived.BigCall
import Derived.Deep.DeepFit
import Derived.Deep.RegionWith
import Derived.RowKitTokens
import Derived.Below
import Derived.LaidEqlPtr
import Derived.Laws.Rows
/-!
link, pathTo, pathError, through: at a build of depth 0 and at one of depth 1, no tail.
-/
namespace Go.Proofs.YbulkozgFmt
open Go.RowKit

theorem Ybaf.size65 : (Ybaf.prog.info? 65).map (·.size) = some 13 := by kernel_rfl
/-- '==' of a *build with itself. -/
theorem eql_build (a : Addr) (w : World) : (binOp .eql 48 (.pointer (some a)) (.pointer (some a))).run Ybaf.prog w = .ok (.bool true) w := by
  obtain ⟨j, hj, _⟩ := Option.map_eq_some_iff.1 Ybaf.size65
  exact run_eql_ptr_same w a Ybaf.underlying48 hj

/-- '!=' of a *build with nil. -/
theorem neq_nil_some (a : Addr) (w : World) : (binOp .neq 48 (.pointer (some a)) (.pointer none)).run Ybaf.prog w = .ok (.bool true) w := by
  have h : ∀ d : Nat, (Op.equalIn (d + 1) 48 (.pointer (some a)) (.pointer none)).run Ybaf.prog w = .ok false w := fun d => by
    simp [Op.equalIn, run_underlying Ybaf.underlying48]
  simp only [binOp]
  simp [Op.equal, Op.maxDepth, h 9999]
theorem neq_nil_none (w : World) : (binOp .neq 48 (.pointer none) (.pointer none)).run Ybaf.prog w = .ok (.bool false) w := by
  have h : ∀ d : Nat, (Op.equalIn (d + 1) 48 (.pointer none) (.pointer none)).run Ybaf.prog w = .ok true w := fun d => by
    simp [Op.equalIn, run_underlying Ybaf.underlying48]
  simp only [binOp]
  simp [Op.equal, Op.maxDepth, h 9999]

theorem heapAt_drew (w : World) (k : Nat) : w.drew.heap[k]? = w.heap[k]? := rfl
theorem make71_1 (w : World) : (Instr.makeSlice 71 (.int .i64 1) (.int .i64 1)).run Ybaf.prog w = .ok (.slice (some ⟨w.heap.size, 0, none⟩) 1 1) (w.alloc (.cells #[.pointer none, .pointer none] 80)) := by kernel_rfl
theorem make71_2 (w : World) : (Instr.makeSlice 71 (.int .i64 2) (.int .i64 2)).run Ybaf.prog w = .ok (.slice (some ⟨w.heap.size, 0, none⟩) 2 2) (w.alloc (.cells #[.pointer none, .pointer none, .pointer none, .pointer none] 80)) := by kernel_rfl

theorem link_one (nb : Nat) (w : World) :
    Calls Ybaf.prog 41 #[.slice (some ⟨nb, 0, none⟩) 1 1, .int .i64 (-1)] w fun e w' => e = .returned (.tuple #[]) ∧ w' = w := by
  go_enter Ybaf.func41, Ybaf.ntmps41
  go_wp2
  refine wp_loop_rounds 1 ?_
  rw [rounds_succ]
  go_wp2
  go_end0
  exact ⟨rfl, rfl⟩

theorem link_two (nb : Nat) (x : Value) (w : World) (hc : w.cell? ⟨nb, 1, none⟩ = some x) (hz : w.frozen? ⟨nb, 1, none⟩ = false) :
    Calls Ybaf.prog 41 #[.slice (some ⟨nb, 0, none⟩) 2 2, .int .i64 (-1)] w fun e w' => e = .returned (.tuple #[]) ∧ w' = w.setCell ⟨nb, 1, none⟩ (.pointer (some ⟨nb, 2, none⟩)) := by
  go_enter Ybaf.func41, Ybaf.ntmps41
  go_wp2
  refine wp_loop_rounds 2 ?_
  rw [rounds_succ]
  go_wp2
  rw [rounds_succ]
  go_wp2
  go_end0
  exact ⟨rfl, rfl⟩

/-- through, at an error whose path's chain holds b at b's depth. -/
theorem through_one (E B nb : Nat) (w : World) (hE : w.cell? ⟨E, 0, none⟩ = some (.slice (some ⟨nb, 0, none⟩) 1 1)) (hB : w.cell? ⟨B, 4, none⟩ = some (.int .i64 0))
    (hc : w.cell? ⟨nb, 0, none⟩ = some (.pointer (some ⟨B, 0, none⟩))) :
    Calls Ybaf.prog 6 #[.pointer (some ⟨E, 0, none⟩), .pointer (some ⟨B, 0, none⟩)] w fun e w' => e = .returned (.bool true) ∧ w' = w := by
  have heq := eql_build ⟨B, 0, none⟩ w
  go_enter Ybaf.func6, Ybaf.ntmps6
  go_wp2
  go_ret
  exact ⟨rfl, rfl⟩

theorem through_two (E B nb : Nat) (w : World) (hE : w.cell? ⟨E, 0, none⟩ = some (.slice (some ⟨nb, 0, none⟩) 2 2)) (hB : w.cell? ⟨B, 4, none⟩ = some (.int .i64 1))
    (hc : w.cell? ⟨nb, 2, none⟩ = some (.pointer (some ⟨B, 0, none⟩))) :
    Calls Ybaf.prog 6 #[.pointer (some ⟨E, 0, none⟩), .pointer (some ⟨B, 0, none⟩)] w fun e w' => e = .returned (.bool true) ∧ w' = w := by
  have heq := eql_build ⟨B, 0, none⟩ w
  go_enter Ybaf.func6, Ybaf.ntmps6
  go_wp2
  go_ret
  exact ⟨rfl, rfl⟩

set_option maxHeartbeats 1600000 in
set_option maxRecDepth 4000 in
theorem pathTo_one (B : Nat) (w : World) (h3 : w.cell? ⟨B, 3, none⟩ = some (.pointer none)) (h4 : w.cell? ⟨B, 4, none⟩ = some (.int .i64 0)) (hlt : B < w.heap.size) :
    Calls Ybaf.prog 35 #[.pointer (some ⟨B, 0, none⟩), .slice none 0 0] w fun e w' =>
      e = .returned (.agg #[.slice (some ⟨w.heap.size + 1, 0, none⟩) 1 1, .pointer (some ⟨w.heap.size + 1, 0, none⟩), .int .i64 1, .int .i64 (-1), .pointer (some ⟨B, 0, none⟩), .bool false, .slice none 0 0]) ∧
      Below w.heap.size w w' ∧ w'.cell? ⟨w.heap.size + 1, 0, none⟩ = some (.pointer (some ⟨B, 0, none⟩)) := by
  have n1 := neq_nil_some
  have n2 := neq_nil_none
  have m1 := make71_1
  have m2 := make71_2
  go_enter Ybaf.func35, Ybaf.ntmps35
  go_wp2
  refine wp_loop_rounds 2 ?_
  rw [rounds_succ]
  go_wp2
  rw [rounds_succ]
  go_wp2
  go_region
  go_wp2
  refine wp_loop_rounds 1 ?_
  rw [rounds_succ]
  go_wp2_with (go_at_call 41; refine (link_one _ _).mono ?_; rintro e w' ⟨rfl, rfl⟩)
  try simp only [Exit.inBlock, Exit.then]
  refine bodyPost_ret (results_cell_row (P := Ybaf.prog) (ty := 75) rfl _ _ w.heap.size 75 #[.slice (some ⟨w.heap.size + 1, 0, none⟩) 1 1, .pointer (some ⟨w.heap.size + 1, 0, none⟩), .int .i64 1, .int .i64 (-1), .pointer (some ⟨B, 0, none⟩), .bool false, .slice none 0 0] (0, 0) _ (by rfl) (by rw [heapAt_drew, Below.heap_alloc _ _ _ (by simp; omega), Below.heap_alloc _ _ _ (by simp), heap_alloc_new]) Ybaf.underlying75 rfl (by kernel_rfl)) rfl ?_
  refine ⟨rfl, ?_, ?_⟩
  · exact ((((Below.refl _ _).alloc (Nat.le_refl _) _).alloc (by simp) _).alloc (by simp; omega) _).drew
  · go_simp

set_option maxHeartbeats 1600000 in
set_option maxRecDepth 4000 in
theorem pathTo_two (B A : Nat) (w : World) (h3 : w.cell? ⟨B, 3, none⟩ = some (.pointer (some ⟨A, 0, none⟩))) (h4 : w.cell? ⟨B, 4, none⟩ = some (.int .i64 1)) (k3 : w.cell? ⟨A, 3, none⟩ = some (.pointer none)) (k4 : w.cell? ⟨A, 4, none⟩ = some (.int .i64 0)) (hlt : B < w.heap.size) (klt : A < w.heap.size) :
    Calls Ybaf.prog 35 #[.pointer (some ⟨B, 0, none⟩), .slice none 0 0] w fun e w' =>
      e = .returned (.agg #[.slice (some ⟨w.heap.size + 1, 0, none⟩) 2 2, .pointer (some ⟨w.heap.size + 1, 0, none⟩), .int .i64 2, .int .i64 (-1), .pointer (some ⟨B, 0, none⟩), .bool false, .slice none 0 0]) ∧
      Below w.heap.size w w' ∧ w'.cell? ⟨w.heap.size + 1, 0, none⟩ = some (.pointer (some ⟨A, 0, none⟩)) ∧ w'.cell? ⟨w.heap.size + 1, 2, none⟩ = some (.pointer (some ⟨B, 0, none⟩)) := by
  have n1 := neq_nil_some
  have n2 := neq_nil_none
  have m1 := make71_1
  have m2 := make71_2
  go_enter Ybaf.func35, Ybaf.ntmps35
  go_wp2
  refine wp_loop_rounds 3 ?_
  rw [rounds_succ]
  go_wp2
  rw [rounds_succ]
  go_wp2
  rw [rounds_succ]
  go_wp2
  go_region
  go_wp2
  refine wp_loop_rounds 1 ?_
  rw [rounds_succ]
  go_wp2_with (go_at_call 41; refine (link_two _ (.pointer none) _ ?_ ?_).mono ?_; (· go_simp); (· go_simp); rintro e w' ⟨rfl, rfl⟩)
  try simp only [Exit.inBlock, Exit.then]
  refine bodyPost_ret (results_cell_row (P := Ybaf.prog) (ty := 75) rfl _ _ w.heap.size 75 #[.slice (some ⟨w.heap.size + 1, 0, none⟩) 2 2, .pointer (some ⟨w.heap.size + 1, 0, none⟩), .int .i64 2, .int .i64 (-1), .pointer (some ⟨B, 0, none⟩), .bool false, .slice none 0 0] (0, 0) _ (by rfl) (by rw [heapAt_drew, Below.heap_alloc _ _ _ (by simp; omega), Below.heap_alloc _ _ _ (by simp), heap_alloc_new]) Ybaf.underlying75 rfl (by kernel_rfl)) rfl ?_
  refine ⟨rfl, ?_, ?_, ?_⟩
  · exact ((((Below.refl _ _).alloc (Nat.le_refl _) _).alloc (by simp) _).alloc (by simp; omega) _).drew
  · go_simp
  · go_simp

end Go.Proofs.YbulkozgFmt
