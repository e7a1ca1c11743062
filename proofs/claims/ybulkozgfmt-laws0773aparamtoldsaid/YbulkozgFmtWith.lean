import Derived.Test.YbulkozgFmtPath
import Derived.Test.YbulkozgFmtAs
/-!
pathError and withPath: the error of container.Param, given the resolution path.
-/
namespace Go.Proofs.YbulkozgFmt
open Go.RowKit

theorem cellLt {w : World} {a : Addr} {v : Value} (h : w.cell? a = some v) : a.block < w.heap.size := World.block_lt_of_cell? _ _ h
theorem cell_alloc_of {w : World} {a : Addr} {v : Value} (h : w.cell? a = some v) (o : Obj) : (w.alloc o).cell? a = some v := by
  rw [World.cell?_alloc_lt _ _ _ (cellLt h)]; exact h

theorem pathError_one (B : Nat) (et : TypeId) (ev : Value) (w : World) (h3 : w.cell? ⟨B, 3, none⟩ = some (.pointer none)) (h4 : w.cell? ⟨B, 4, none⟩ = some (.int .i64 0)) (hlt : B < w.heap.size) :
    Calls Ybaf.prog 19 #[.pointer (some ⟨B, 0, none⟩), .iface et ev, .slice none 0 0] w fun e w' => ∃ w1, Below w.heap.size w w1 ∧ w1.cell? ⟨w.heap.size + 1, 0, none⟩ = some (.pointer (some ⟨B, 0, none⟩)) ∧
      e = .returned (.pointer (some ⟨w1.heap.size, 0, none⟩)) ∧ w' = w1.alloc (.cells #[.slice (some ⟨w.heap.size + 1, 0, none⟩) 1 1, .pointer (some ⟨w.heap.size + 1, 0, none⟩), .int .i64 1, .int .i64 (-1), .pointer (some ⟨B, 0, none⟩), .bool false, .slice none 0 0, .iface et ev] 77) := by
  go_enter Ybaf.func19, Ybaf.ntmps19
  go_wp2_with (go_at_call 35; refine (pathTo_one B _ h3 h4 hlt).mono ?_; rintro e w1 ⟨rfl, hb, hc⟩)
  go_ret
  exact ⟨w1, hb, hc, rfl, rfl⟩

theorem pathError_two (B A : Nat) (et : TypeId) (ev : Value) (w : World) (h3 : w.cell? ⟨B, 3, none⟩ = some (.pointer (some ⟨A, 0, none⟩))) (h4 : w.cell? ⟨B, 4, none⟩ = some (.int .i64 1)) (k3 : w.cell? ⟨A, 3, none⟩ = some (.pointer none)) (k4 : w.cell? ⟨A, 4, none⟩ = some (.int .i64 0)) (hlt : B < w.heap.size) (klt : A < w.heap.size) :
    Calls Ybaf.prog 19 #[.pointer (some ⟨B, 0, none⟩), .iface et ev, .slice none 0 0] w fun e w' => ∃ w1, Below w.heap.size w w1 ∧ w1.cell? ⟨w.heap.size + 1, 0, none⟩ = some (.pointer (some ⟨A, 0, none⟩)) ∧ w1.cell? ⟨w.heap.size + 1, 2, none⟩ = some (.pointer (some ⟨B, 0, none⟩)) ∧
      e = .returned (.pointer (some ⟨w1.heap.size, 0, none⟩)) ∧ w' = w1.alloc (.cells #[.slice (some ⟨w.heap.size + 1, 0, none⟩) 2 2, .pointer (some ⟨w.heap.size + 1, 0, none⟩), .int .i64 2, .int .i64 (-1), .pointer (some ⟨B, 0, none⟩), .bool false, .slice none 0 0, .iface et ev] 77) := by
  go_enter Ybaf.func19, Ybaf.ntmps19
  go_wp2_with (go_at_call 35; refine (pathTo_two B A _ h3 h4 k3 k4 hlt klt).mono ?_; rintro e w1 ⟨rfl, hb, hc, hc2⟩)
  go_ret
  exact ⟨w1, hb, hc, hc2, rfl, rfl⟩

/-- The error that withPath makes, at depth 0. -/
structure Path1 (w' : World) (N nb B : Nat) (et : TypeId) (ev : Value) : Prop where
  obj : w'.heap[N]? = some (.cells #[.slice (some ⟨nb, 0, none⟩) 1 1, .pointer (some ⟨nb, 0, none⟩), .int .i64 1, .int .i64 (-1), .pointer (some ⟨B, 0, none⟩), .bool false, .slice none 0 0, .iface et ev] 77 (0, 0))
  node : w'.cell? ⟨nb, 0, none⟩ = some (.pointer (some ⟨B, 0, none⟩))

theorem withPath_one (B pb : Nat) (x : Addr) (w : World) (hg : w.cell? ⟨2, 0, none⟩ = some (.iface 99 (.agg #[.pointer (some ⟨3, 62, none⟩)]))) (hx : w.cell? ⟨pb, 0 + 1, none⟩ = some (.iface 133 (.pointer (some x))))
    (h3 : w.cell? ⟨B, 3, none⟩ = some (.pointer none)) (h4 : w.cell? ⟨B, 4, none⟩ = some (.int .i64 0)) :
    Calls Ybaf.prog 11 #[.pointer (some ⟨B, 0, none⟩), .iface 118 (.pointer (some ⟨pb, 0, none⟩))] w fun e w' => ∃ N nb, e = .returned (.iface 69 (.pointer (some ⟨N, 0, none⟩))) ∧ Below w.heap.size w w' ∧ Path1 w' N nb B 118 (.pointer (some ⟨pb, 0, none⟩)) := by
  have hb1 : Below w.heap.size w (w.alloc (.cells #[.pointer none] 69)) := (Below.refl _ _).alloc (Nat.le_refl _) _
  have hb2 : Below w.heap.size w (((((w.alloc (.cells #[.pointer none] 69)).alloc (.cells #[.pointer (some ⟨w.heap.size, 0, none⟩)] 96)).alloc (.cells #[.pointer (some ⟨3, 96, none⟩), .pointer (some ⟨w.heap.size + 1, 0, none⟩), .int .u64 150] 121)).alloc (.cells #[.pointer (some ⟨3, 96, none⟩), .pointer (some ⟨w.heap.size + 1, 0, none⟩), .int .u64 150] 121))) := ((hb1.alloc (by simp) _).alloc (by simp; omega) _).alloc (by simp; omega) _
  go_enter Ybaf.func11, Ybaf.ntmps11
  go_wp2_with (first
    | (go_at_call 18; refine (as_miss pb 0 x _ _ ?_ ?_).mono ?_; (· rw [hb1.cell (cellLt hg)]; exact hg); (· rw [hb1.cell (cellLt hx)]; exact hx); rintro e w' ⟨rfl, rfl⟩)
    | (go_at_call 19; refine (pathError_one B 118 _ _ ?_ ?_ ?_).mono ?_; (· exact (hb2.cell (cellLt h3)).trans h3); (· exact (hb2.cell (cellLt h4)).trans h4); (· exact Nat.lt_of_lt_of_le (cellLt h3) hb2.size); rintro e w' ⟨w1, hw1, hc, rfl, rfl⟩))
  go_ret
  refine ⟨w1.heap.size, _, rfl, ?_, ⟨heap_alloc_new _ _, ?_⟩⟩
  · exact (hb2.trans (hw1.mono hb2.size)).alloc (Nat.le_trans hb2.size hw1.size) _
  · exact cell_alloc_of (by simpa using hc) _

/-- The error that withPath makes, at depth 1, under the build A. -/
structure Path2 (w' : World) (N nb B A : Nat) (et : TypeId) (ev : Value) : Prop where
  obj : w'.heap[N]? = some (.cells #[.slice (some ⟨nb, 0, none⟩) 2 2, .pointer (some ⟨nb, 0, none⟩), .int .i64 2, .int .i64 (-1), .pointer (some ⟨B, 0, none⟩), .bool false, .slice none 0 0, .iface et ev] 77 (0, 0))
  node : w'.cell? ⟨nb, 0, none⟩ = some (.pointer (some ⟨A, 0, none⟩))
  node2 : w'.cell? ⟨nb, 2, none⟩ = some (.pointer (some ⟨B, 0, none⟩))

theorem withPath_two (B A pb : Nat) (x : Addr) (w : World) (hg : w.cell? ⟨2, 0, none⟩ = some (.iface 99 (.agg #[.pointer (some ⟨3, 62, none⟩)]))) (hx : w.cell? ⟨pb, 0 + 1, none⟩ = some (.iface 133 (.pointer (some x))))
    (h3 : w.cell? ⟨B, 3, none⟩ = some (.pointer (some ⟨A, 0, none⟩))) (h4 : w.cell? ⟨B, 4, none⟩ = some (.int .i64 1)) (k3 : w.cell? ⟨A, 3, none⟩ = some (.pointer none)) (k4 : w.cell? ⟨A, 4, none⟩ = some (.int .i64 0)) :
    Calls Ybaf.prog 11 #[.pointer (some ⟨B, 0, none⟩), .iface 118 (.pointer (some ⟨pb, 0, none⟩))] w fun e w' => ∃ N nb, e = .returned (.iface 69 (.pointer (some ⟨N, 0, none⟩))) ∧ Below w.heap.size w w' ∧ Path2 w' N nb B A 118 (.pointer (some ⟨pb, 0, none⟩)) := by
  have hb1 : Below w.heap.size w (w.alloc (.cells #[.pointer none] 69)) := (Below.refl _ _).alloc (Nat.le_refl _) _
  have hb2 : Below w.heap.size w (((((w.alloc (.cells #[.pointer none] 69)).alloc (.cells #[.pointer (some ⟨w.heap.size, 0, none⟩)] 96)).alloc (.cells #[.pointer (some ⟨3, 96, none⟩), .pointer (some ⟨w.heap.size + 1, 0, none⟩), .int .u64 150] 121)).alloc (.cells #[.pointer (some ⟨3, 96, none⟩), .pointer (some ⟨w.heap.size + 1, 0, none⟩), .int .u64 150] 121))) := ((hb1.alloc (by simp) _).alloc (by simp; omega) _).alloc (by simp; omega) _
  go_enter Ybaf.func11, Ybaf.ntmps11
  go_wp2_with (first
    | (go_at_call 18; refine (as_miss pb 0 x _ _ ?_ ?_).mono ?_; (· rw [hb1.cell (cellLt hg)]; exact hg); (· rw [hb1.cell (cellLt hx)]; exact hx); rintro e w' ⟨rfl, rfl⟩)
    | (go_at_call 19; refine (pathError_two B A 118 _ _ ?_ ?_ ?_ ?_ ?_ ?_).mono ?_; (· exact (hb2.cell (cellLt h3)).trans h3); (· exact (hb2.cell (cellLt h4)).trans h4); (· exact (hb2.cell (cellLt k3)).trans k3); (· exact (hb2.cell (cellLt k4)).trans k4); (· exact Nat.lt_of_lt_of_le (cellLt h3) hb2.size); (· exact Nat.lt_of_lt_of_le (cellLt k3) hb2.size); rintro e w' ⟨w1, hw1, hc, hc2, rfl, rfl⟩))
  go_ret
  refine ⟨w1.heap.size, _, rfl, ?_, ⟨heap_alloc_new _ _, ?_, ?_⟩⟩
  · exact (hb2.trans (hw1.mono hb2.size)).alloc (Nat.le_trans hb2.size hw1.size) _
  · exact cell_alloc_of (by simpa using hc) _
  · exact cell_alloc_of (by simpa using hc2) _

end Go.Proofs.YbulkozgFmt
