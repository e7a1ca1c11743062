/-
  newQueue AND THE LAW ON ITS SHAPE.
-/
import Derived.Test.YbulkpdaRows
import Derived.WalkKit
import Derived.WalkSpells
import Derived.WalkLawsBesides
import Derived.MapKept
namespace Go.Proofs.Ybulkpda
open Go.RowKit Go.MapKept

/-- What 'make([]uint32, n)' lays. -/
def zeros (n : Nat) : Array Value := madeCells #[.int .u32 0] n

theorem zeros_at {n j : Nat} (h : j < n) : (zeros n)[j]? = some (.int .u32 0) := by
  simp [zeros, madeCells, h, Nat.mod_one]

theorem make24 (l n : Nat) (hl : l ≤ n) (h : n ≤ 65536) (w : World) : (Instr.makeSlice 24 (.int .i64 (l : Int)) (.int .i64 (n : Int))).run Yba.prog w = .ok (.slice (some ⟨w.heap.size, 0, none⟩) l n) (w.alloc (.cells (zeros n) 28)) := by
  have hi : (Yba.prog.info? 28).map (fun i => (i.zero, i.size, i.bytes)) = some (some (.int .u32 0), 1, 4) := by kernel_rfl
  obtain ⟨i, h1, h2, h3, h4⟩ := info_parts hi
  have h := run_make (P := Yba.prog) w 24 28 i _ Yba.underlying24 h1 h2 .i64 .i64 l n (by omega) (by omega) (by rw [h4]; omega) (by omega)
  rw [h3] at h
  simpa [zeros, Value.cells] using h

/-- The queue that lies at q: its index is a row of n zeros; pcs and threads are empty with room for n; no caps. -/
def Fresh (w : World) (q n : Nat) : Prop :=
  ∃ i j k, w.heap[q]? = some (.cells #[.slice (some ⟨i, 0, none⟩) n n, .slice (some ⟨j, 0, none⟩) 0 n, .slice (some ⟨k, 0, none⟩) 0 n, .slice none 0 0] 27 (0, 0)) ∧ w.heap[i]? = some (.cells (zeros n) 28 (0, 0))

theorem fresh_world (w : World) (n : Nat) (C : Array Value) (i : Nat) (h1 : w.heap.size ≤ i) (h2 : i ≤ w.heap.size + 1 + 1) :
    ((((w.alloc (.cells (zeros n) 28)).alloc (.cells (zeros n) 28)).alloc (.cells (zeros n) 28)).alloc (.cells C 27)).drew.heap[w.heap.size + 1 + 1 + 1]? = some (.cells C 27 (0, 0)) ∧
    ((((w.alloc (.cells (zeros n) 28)).alloc (.cells (zeros n) 28)).alloc (.cells (zeros n) 28)).alloc (.cells C 27)).drew.heap[i]? = some (.cells (zeros n) 28 (0, 0)) := by
  refine ⟨?_, ?_⟩
  · show ((((w.alloc (.cells (zeros n) 28)).alloc (.cells (zeros n) 28)).alloc (.cells (zeros n) 28)).alloc (.cells C 27)).heap[w.heap.size + 1 + 1 + 1]? = _
    have := (heap_alloc (((w.alloc (.cells (zeros n) 28)).alloc (.cells (zeros n) 28)).alloc (.cells (zeros n) 28)) (.cells C 27)).1
    simpa using this
  · show ((((w.alloc (.cells (zeros n) 28)).alloc (.cells (zeros n) 28)).alloc (.cells (zeros n) 28)).alloc (.cells C 27)).heap[i]? = _
    rw [(heap_alloc _ _).2 _ (by simp; omega)]
    by_cases e2 : i = w.heap.size + 1 + 1
    · have := (heap_alloc ((w.alloc (.cells (zeros n) 28)).alloc (.cells (zeros n) 28)) (.cells (zeros n) 28)).1
      rw [e2]; simpa using this
    rw [(heap_alloc _ _).2 _ (by simp; omega)]
    by_cases e1 : i = w.heap.size + 1
    · have := (heap_alloc (w.alloc (.cells (zeros n) 28)) (.cells (zeros n) 28)).1
      rw [e1]; simpa using this
    rw [(heap_alloc _ _).2 _ (by simp; omega)]
    have e0 : i = w.heap.size := by omega
    rw [e0]
    exact (heap_alloc w _).1

theorem below_world (w : World) (n : Nat) (C : Array Value) : Below w.heap.size w ((((w.alloc (.cells (zeros n) 28)).alloc (.cells (zeros n) 28)).alloc (.cells (zeros n) 28)).alloc (.cells C 27)).drew :=
  (((((Below.refl _ _).alloc (Nat.le_refl _) _).alloc (by simp) _).alloc (by simp <;> omega) _).alloc (by simp <;> omega) _).drew

theorem below_drewN' {B : Nat} {a w : World} (h : Below B a w) (n : Nat) : Below B a (w.drewN n) := ⟨h.os, h.tape, h.output, h.size, h.block⟩

set_option maxRecDepth 100000 in
set_option maxHeartbeats 1000000 in
theorem newQueue_any (n : Nat) (hn : n ≤ 65536) (w : World) :
    Calls Yba.prog 4 #[.int .i64 (n : Int)] w fun e w' => ∃ q, e = .returned (.pointer (some ⟨q, 0, none⟩)) ∧ Below w.heap.size w w' ∧ Fresh w' q n := by
  have hm1 := make24 n n (Nat.le_refl _) hn
  have hm2 := make24 0 n (Nat.zero_le _) hn
  simp only [Int.natCast_zero] at hm2
  go_enter Yba.func4, Yba.ntmps4
  go_wp2
  go_region
  all_goals
    go_wp2
    go_ret
    refine ⟨_, rfl, below_world w n _, _, _, _, (fresh_world w n _ _ (Nat.le_refl _) (by omega)).1, (fresh_world w n _ _ ?_ ?_).2⟩ <;> omega

set_option maxRecDepth 100000 in
set_option maxHeartbeats 400000 in
theorem shape_out (a : Int) (w : World) (h : a < 0 ∨ 65536 < a) :
    Calls Yba.prog 3 #[.int .i64 a] w fun e w' => e = .returned (.bool true) ∧ Below w.heap.size w w' := by
  rcases h with h | h
  · go_enter Yba.func3, Yba.ntmps3
    go_wp2
    go_ret
    exact ⟨rfl, Below.refl _ _⟩
  · have h' : ¬ a < 0 := by omega
    go_enter Yba.func3, Yba.ntmps3
    go_wp2
    go_ret
    exact ⟨rfl, Below.refl _ _⟩

set_option maxRecDepth 100000 in
set_option maxHeartbeats 1000000 in
theorem shape_any (n : Nat) (hn : n ≤ 65536) (w : World) :
    Calls Yba.prog 3 #[.int .i64 (n : Int)] w fun e w' => e = .returned (.bool true) ∧ Below w.heap.size w w' := by
  have hq := fun w => Lib.run_eql_slice_nil (P := Yba.prog) w 25 3 none 0 0 0 0 Yba.underlying25
  have hc0 : decide ((n : Int) < 0) = false := by simp
  have hc1 : decide (65536 < (n : Int)) = false := by simp; omega
  go_enter Yba.func3, Yba.ntmps3
  go_wp2_with fail
  refine (newQueue_any n hn _).mono ?_
  rintro e W ⟨q, rfl, hb, i, j, k, hqb, hib⟩
  have k0 : W.cell? ⟨q, 0, none⟩ = some (.slice (some ⟨i, 0, none⟩) n n) := by simp [World.cell?, hqb]
  have k1 : W.cell? ⟨q, 1, none⟩ = some (.slice (some ⟨j, 0, none⟩) 0 n) := by simp [World.cell?, hqb]
  have k2 : W.cell? ⟨q, 2, none⟩ = some (.slice (some ⟨k, 0, none⟩) 0 n) := by simp [World.cell?, hqb]
  have k3 : W.cell? ⟨q, 3, none⟩ = some (.slice none 0 0) := by simp [World.cell?, hqb]
  have ki : ∀ r, r < n → W.cell? ⟨i, r, none⟩ = some (.int .u32 0) := fun r hr => by simp [World.cell?, hib, zeros_at hr]
  clear hqb hib
  go_wp2
  go_loop [4] (fun t => ∃ r : Nat, r ≤ n ∧ t = .int .i64 r) (fun t => n - (intOf t).toNat)
  case atStart => exact ⟨0, Nat.zero_le _, rfl⟩
  case round =>
    obtain ⟨r, hrn, rfl⟩ := hrel
    by_cases hlt : r < n
    · have kr := ki r hlt
      go_wp2
      go_round
      case rel => exact ⟨r + 1, by omega, by go_num⟩
      case measure => simp [intOf]; omega
    · go_wp2
      go_ret
      exact ⟨rfl, hb⟩
end Go.Proofs.Ybulkpda
