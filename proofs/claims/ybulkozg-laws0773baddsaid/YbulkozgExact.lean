/-
  THE WALK OF LawS0773BExact.
-/
import Derived.Test.YbulkozgShift
namespace Go.Proofs.Ybulkozg
open Go.RowKit

theorem neq24q (q : Option Addr) (w : World) : (binOp .neq 24 (.pointer q) (.pointer q)).run Yba.prog w = .ok (.bool false) w := by
  cases q with
  | none => exact run_neq_pointer_nil (P := Yba.prog) w 24 none (by kernel_rfl)
  | some a => exact neq24 a w

theorem Row.drewN {w : World} {b n i : Nat} {P : Nat → Int} {Q : Nat → Option Addr} (h : Row w b n i P Q) (q : Nat) : Row (w.drewN q) b n i P Q := h
theorem below_drewN' {B : Nat} {a w : World} (h : Below B a w) (n : Nat) : Below B a (w.drewN n) := ⟨h.os, h.tape, h.output, h.size, h.block⟩

set_option maxRecDepth 100000 in
set_option maxHeartbeats 400000 in
theorem exact_long (a0 : Option Addr) (len cap : Nat) (v1 v2 : Value) (w : World) (h : 1024 < len) :
    Calls Yba.prog 3 #[.slice a0 len cap, v1, v2] w fun e w' => e = .returned (.bool true) ∧ Below w.heap.size w w' := by
  have hc0 : (1024 : Int) < (len : Int) := by omega
  go_enter Yba.func3, Yba.ntmps3
  go_wp2
  go_ret
  exact ⟨rfl, Below.refl _ _⟩

set_option maxRecDepth 100000 in
set_option maxHeartbeats 400000 in
theorem exact_nil (v1 : Value) (s : Int) (w : World) :
    Calls Yba.prog 3 #[.slice none 0 0, v1, .int .i64 s] w fun e w' => e = .returned (.bool true) ∧ Below w.heap.size w w' := by
  have hq := fun w => Lib.run_eql_slice_nil (P := Yba.prog) w 35 39 none 0 0 0 0 Yba.underlying35
  go_enter Yba.func3, Yba.ntmps3
  go_wp2_with (first | (go_at_call 7; refine (marks_nil _ _ _ _ _ _).mono ?_; rintro e w' ⟨rfl, rfl⟩) | (go_at_call 8; refine (shifted_none _ _ _ _).mono ?_; rintro e w' ⟨rfl, rfl⟩))
  go_ret
  exact ⟨rfl, ((Below.refl _ _).alloc (Nat.le_refl _) _).alloc (by simp) _⟩

set_option maxRecDepth 100000 in
set_option maxHeartbeats 1000000 in
theorem exact_any (x : Addr) (len cap : Nat) (z0 : Nat → Int) (a1 : Option Addr) (len1 cap1 : Nat) (z1 : Nat → Int) (s : Int) (w : World) (hn : len ≤ 1024)
    (h0 : ∀ i, i < len → w.cell? (x.add i) = some (.int .i64 (z0 i)))
    (h1 : len1 ≤ 0 ∨ ∃ y, a1 = some y ∧ len1 ≤ maxLen ∧ ∀ i, i < len1 → w.cell? (y.add i) = some (.int .u8 (z1 i)) ∧ 0 ≤ z1 i ∧ z1 i ≤ 255) :
    Calls Yba.prog 3 #[.slice (some x) len cap, .slice a1 len1 cap1, .int .i64 s] w fun e w' => e = .returned (.bool true) ∧ Below w.heap.size w w' := by
  have hq := fun w => Lib.run_eql_slice_nil (P := Yba.prog) w 35 39 none 0 0 0 0 Yba.underlying35
  have hc0 : decide (1024 < (len : Int)) = false := by simp; omega
  have hnq := neq24q
  go_enter Yba.func3, Yba.ntmps3
  go_wp2_with fail
  refine (marks_any x len cap z0 a1 len1 cap1 z1 _ _ _ hn ?h0 ?h1).mono ?_
  case h0 =>
    intro i hi
    have kb := World.block_lt_of_cell? _ _ (h0 i hi)
    rw [(((Below.refl w.heap.size w).alloc (Nat.le_refl _) _).alloc (by simp) _).cell kb]
    exact h0 i hi
  case h1 =>
    rcases h1 with h1 | ⟨y, rfl, hm, h1⟩
    · exact .inl h1
    · refine .inr ⟨y, rfl, hm, fun i hi => ?_⟩
      have kb := World.block_lt_of_cell? _ _ (h1 i hi).1
      rw [(((Below.refl w.heap.size w).alloc (Nat.le_refl _) _).alloc (by simp) _).cell kb]
      exact h1 i hi
  rintro e w3 ⟨rfl, hb3, hr3⟩
  generalize hQ : (fun j => pick (sel z1 len1 j) _ _) = Q at hr3
  clear hQ
  have hB : Below w.heap.size w w3 := Below.trans (((Below.refl w.heap.size w).alloc (Nat.le_refl _) _).alloc (by simp) _) (hb3.mono (by simp <;> omega))
  simp only [World.size_alloc] at hr3
  clear hb3
  by_cases hz : len = 0
  · subst hz
    go_wp2_with (first | (go_at_call 8; refine (shifted_none _ _ _ _).mono ?_; rintro e w' ⟨rfl, rfl⟩))
    go_ret
    exact ⟨rfl, hB⟩
  · have hz' : ((len : Int) == 0) = false := by simp; omega
    go_wp2_with fail
    refine (shifted_any _ len _ z0 Q s _ (by omega) hn ?hr).mono ?_
    case hr => exact hr3
    rintro e w4 ⟨rfl, hb4, hr4⟩
    have hl3 := hr3.lt
    have hr5 := hr3.below hb4 hl3
    have hB4 := hB.trans (hb4.mono (by have := hB.size; omega))
    have hG : w.heap.size + 1 + 1 ≠ w3.heap.size := by omega
    clear hr3 hb4 h1
    go_wp2
    go_loopw [40] (fun i wr => ∃ r : Nat, r ≤ len ∧ i = .int .i64 r ∧ Below w.heap.size w wr ∧ Row wr (w.heap.size + 1 + 1) len len z0 Q ∧ Row wr w3.heap.size len len (fun j => wrap64 (z0 j + s)) Q) (fun i _ => len - (intOf i).toNat)
    case atStart => exact ⟨0, Nat.zero_le _, rfl, hB4, hr5, hr4⟩
    case round =>
      obtain ⟨r, hrn, rfl, hb, hm, hg⟩ := hrel
      clear hB hB4 hr5 hr4
      by_cases hlt : r < len
      · have kb := World.block_lt_of_cell? _ _ (h0 r hlt)
        have k0 : wr.cell? (x.add r) = some (.int .i64 (z0 r)) := by rw [hb.cell kb]; exact h0 r hlt
        have m0 := hm.place hlt hlt
        have m1 := hm.build hlt hlt
        have g0 := hg.place hlt hlt
        have g1 := hg.build hlt hlt
        go_wp2
        go_quiet (fail)
        go_wp2
        go_quiet (fail)
        go_wp2
        go_roundw
        case rel => exact ⟨r + 1, by omega, by go_num, below_drewN' hb _, hm.drewN _, hg.drewN _⟩
        case measure => simp [intOf]; omega
      · have hpos : 0 < len := by omega
        have m0 := hm.place hpos hpos
        have g0 := hg.place hpos hpos
        have gf := hg.free 0
        simp only [Nat.zero_mul] at m0 g0
        have hw := hg.lt
        go_wp2
        go_ret
        exact ⟨rfl, hb.setCell (by show _ ≤ w3.heap.size; omega) _⟩
end Go.Proofs.Ybulkozg
