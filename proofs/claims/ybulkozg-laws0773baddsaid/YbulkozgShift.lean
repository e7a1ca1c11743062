/-
  THE CONTRACTS of shifted (8) and zzs0773bmarks (7).
-/
import Derived.Test.YbulkozgMarks
import Derived.Deep.QuietTactic
import Derived.BigQuiet
namespace Go.Proofs.Ybulkozg
open Go.RowKit

set_option maxRecDepth 100000 in
set_option maxHeartbeats 400000 in
theorem shifted_none (a : Option Addr) (cap : Nat) (s : Int) (w : World) :
    Calls Yba.prog 8 #[.slice a 0 cap, .int .i64 s] w fun e w' => e = .returned (.slice none 0 0) ∧ w = w' := by
  go_enter Yba.func8, Yba.ntmps8
  go_wp2
  go_ret
  exact ⟨rfl, rfl⟩

set_option maxRecDepth 100000 in
set_option maxHeartbeats 400000 in
theorem shifted_any (b n cap : Nat) (P : Nat → Int) (Q : Nat → Option Addr) (s : Int) (w : World) (hn0 : 0 < n) (hn : n ≤ 1024) (hr : Row w b n n P Q) :
    Calls Yba.prog 8 #[.slice (some ⟨b, 0, none⟩) n cap, .int .i64 s] w fun e w' => e = .returned (.slice (some ⟨w.heap.size, 0, none⟩) n n) ∧ Below w.heap.size w w' ∧ Row w' w.heap.size n n (fun j => wrap64 (P j + s)) Q := by
  have hmk := make35 n hn
  have hz : ((n : Int) == 0) = false := by simp; omega
  have hbl := hr.lt
  go_enter Yba.func8, Yba.ntmps8
  go_wp2
  go_loopw [16] (fun i wr => ∃ r : Nat, r ≤ n ∧ i = .int .i64 r ∧ Below w.heap.size w wr ∧ Row wr w.heap.size n r (fun j => wrap64 (P j + s)) Q) (fun i _ => n - (intOf i).toNat)
  case atStart => exact ⟨0, Nat.zero_le _, rfl, (Below.refl _ _).alloc (Nat.le_refl _) _, Row.start _ _ _ _⟩
  case round =>
    obtain ⟨r, hrn, rfl, hbel, hrow⟩ := hrel
    by_cases hlt : r < n
    · have hr2 := hr.below hbel hbl
      have k0 := hr2.place hlt hlt
      have k1 := hr2.build hlt hlt
      have kf0 := hrow.free (r * 2)
      have kf1 := hrow.free (r * 2 + 1)
      obtain ⟨v0, ks0⟩ := hrow.some (show r * 2 < n * 2 by omega)
      obtain ⟨v1, ks1⟩ := hrow.some (show r * 2 + 1 < n * 2 by omega)
      have hsz := hrow.lt
      have hsz' : b < wr.heap.size := by omega
      have hne : b ≠ w.heap.size := by omega
      clear hr2
      go_wp2
      go_roundw
      case rel => exact ⟨r + 1, by omega, by go_num, ((hbel.setCell (Nat.le_refl _) _).setCell (Nat.le_refl _) _).alloc (by simp [World.setCell]; omega) _, (hrow.step hlt).alloc _⟩
      case measure => simp [intOf]; omega
    · obtain rfl : r = n := by omega
      go_wp2
      go_ret
      exact ⟨rfl, hbel, hrow⟩

set_option maxRecDepth 100000 in
set_option maxHeartbeats 400000 in
theorem marks_nil (len cap : Nat) (v1 v2 v3 : Value) (w : World) :
    Calls Yba.prog 7 #[.slice none len cap, v1, v2, v3] w fun e w' => e = .returned (.slice none 0 0) ∧ w = w' := by
  have hq := fun w => Lib.run_eql_slice_nil (P := Yba.prog) w 22 3 none len cap 0 0 Yba.underlying22
  go_enter Yba.func7, Yba.ntmps7
  go_wp2
  go_ret
  exact ⟨rfl, rfl⟩

set_option maxRecDepth 100000 in
set_option maxHeartbeats 400000 in
theorem marks_any (x : Addr) (len cap : Nat) (z0 : Nat → Int) (a1 : Option Addr) (len1 cap1 : Nat) (z1 : Nat → Int) (p0 p1 : Addr) (w : World) (hn : len ≤ 1024)
    (h0 : ∀ i, i < len → w.cell? (x.add i) = some (.int .i64 (z0 i)))
    (h1 : len1 ≤ 0 ∨ ∃ y, a1 = some y ∧ len1 ≤ maxLen ∧ ∀ i, i < len1 → w.cell? (y.add i) = some (.int .u8 (z1 i)) ∧ 0 ≤ z1 i ∧ z1 i ≤ 255) :
    Calls Yba.prog 7 #[.slice (some x) len cap, .slice a1 len1 cap1, .pointer (some p0), .pointer (some p1)] w fun e w' => e = .returned (.slice (some ⟨w.heap.size, 0, none⟩) len len) ∧ Below w.heap.size w w' ∧
      Row w' w.heap.size len len z0 (fun j => pick (sel z1 len1 j) p0 p1) := by
  have hq := fun w => Lib.run_eql_slice_nil (P := Yba.prog) w 22 3 (some x) len cap 0 0 Yba.underlying22
  have hmk := make35 len hn
  rcases h1 with h1 | ⟨y, rfl, hm1, h1⟩
  · go_enter Yba.func7, Yba.ntmps7
    go_wp2
    go_loopw [21] (fun i wr => ∃ r : Nat, r ≤ len ∧ i = .int .i64 r ∧ Below w.heap.size w wr ∧ Row wr w.heap.size len r z0 (fun j => pick (sel z1 len1 j) p0 p1)) (fun i _ => len - (intOf i).toNat)
    case atStart => exact ⟨0, Nat.zero_le _, rfl, (Below.refl _ _).alloc (Nat.le_refl _) _, Row.start _ _ _ _⟩
    case round =>
      obtain ⟨r, hrn, rfl, hbel, hrow⟩ := hrel
      by_cases hlt : r < len
      · have kb := World.block_lt_of_cell? _ _ (h0 r hlt)
        have k0 : wr.cell? (x.add r) = some (.int .i64 (z0 r)) := by rw [hbel.cell kb]; exact h0 r hlt
        have kf0 := hrow.free (r * 2)
        have kf1 := hrow.free (r * 2 + 1)
        obtain ⟨v0, ks0⟩ := hrow.some (show r * 2 < len * 2 by omega)
        obtain ⟨v1, ks1⟩ := hrow.some (show r * 2 + 1 < len * 2 by omega)
        have hsz := hrow.lt
        go_wp2
        go_roundw
        case rel => exact ⟨r + 1, by omega, by go_num, (hbel.setCell (Nat.le_refl _) _).setCell (Nat.le_refl _) _, hrow.step' hlt rfl (pick_past _ _ (by omega))⟩
        case measure => simp [intOf]; omega
      · obtain rfl : r = len := by omega
        go_wp2
        go_ret
        exact ⟨rfl, hbel, hrow⟩
  · unfold maxLen at hm1
    go_enter Yba.func7, Yba.ntmps7
    go_wp2
    go_loopw [21] (fun i wr => ∃ r : Nat, r ≤ len ∧ i = .int .i64 r ∧ Below w.heap.size w wr ∧ Row wr w.heap.size len r z0 (fun j => pick (sel z1 len1 j) p0 p1)) (fun i _ => len - (intOf i).toNat)
    case atStart => exact ⟨0, Nat.zero_le _, rfl, (Below.refl _ _).alloc (Nat.le_refl _) _, Row.start _ _ _ _⟩
    case round =>
      obtain ⟨r, hrn, rfl, hbel, hrow⟩ := hrel
      by_cases hlt : r < len
      · have kb := World.block_lt_of_cell? _ _ (h0 r hlt)
        have k0 : wr.cell? (x.add r) = some (.int .i64 (z0 r)) := by rw [hbel.cell kb]; exact h0 r hlt
        have kf0 := hrow.free (r * 2)
        have kf1 := hrow.free (r * 2 + 1)
        obtain ⟨v0, ks0⟩ := hrow.some (show r * 2 < len * 2 by omega)
        obtain ⟨v1, ks1⟩ := hrow.some (show r * 2 + 1 < len * 2 by omega)
        have hsz := hrow.lt
        by_cases hl1 : r < len1
        · have kb1 := World.block_lt_of_cell? _ _ (h1 r hl1).1
          have k1 : wr.cell? (y.add r) = some (.int .u8 (z1 r)) := by rw [hbel.cell kb1]; exact (h1 r hl1).1
          have g0 := (h1 r hl1).2.1
          have g1 := (h1 r hl1).2.2
          go_wp2
          all_goals
            go_roundw
            case rel => exact ⟨r + 1, by omega, by go_num, (hbel.setCell (Nat.le_refl _) _).setCell (Nat.le_refl _) _, hrow.step' hlt rfl (by first | exact pick_one _ _ hl1 (by assumption) | exact pick_two _ _ hl1 (by assumption) | exact pick_nil _ _ hl1 (by assumption) (by assumption))⟩
            case measure => simp [intOf]; omega
        · go_wp2
          go_roundw
          case rel => exact ⟨r + 1, by omega, by go_num, (hbel.setCell (Nat.le_refl _) _).setCell (Nat.le_refl _) _, hrow.step' hlt rfl (pick_past _ _ (by omega))⟩
          case measure => simp [intOf]; omega
      · obtain rfl : r = len := by omega
        go_wp2
        go_ret
        exact ⟨rfl, hbel, hrow⟩

end Go.Proofs.Ybulkozg
