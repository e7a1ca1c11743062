/-
  THE CONTRACTS of zzs0779beq (9) and zzs0779bline (8).
-/
import Derived.Test.YbulkpcmWriter
import Derived.Deep.QuietTactic
import Derived.BigQuiet
namespace Go.Proofs.Ybulkpcm
open Go.RowKit

set_option maxRecDepth 100000 in
set_option maxHeartbeats 400000 in
theorem eq_empty (a b : Option Addr) (c c' : Nat) (w : World) :
    Calls Yba.prog 9 #[.slice a 0 c, .slice b 0 c'] w fun e w' => e = .returned (.bool true) ∧ ∃ q, w' = w.drewN q := by
  go_enter Yba.func9, Yba.ntmps9
  go_wp2
  refine wp_loop_rounds 1 ?_
  rw [rounds_succ]
  go_wp2
  go_ret
  exact ⟨rfl, 0, rfl⟩

set_option maxRecDepth 100000 in
set_option maxHeartbeats 400000 in
theorem eq_same (x y : Addr) (n c c' : Nat) (z : Nat → Int) (w : World) (hn : n ≤ 1000000) (hx : ∀ j, j < n → w.cell? (x.add j) = some (.int .u8 (z j))) (hy : ∀ j, j < n → w.cell? (y.add j) = some (.int .u8 (z j))) :
    Calls Yba.prog 9 #[.slice (some x) n c, .slice (some y) n c'] w fun e w' => e = .returned (.bool true) ∧ ∃ q, w' = w.drewN q := by
  go_enter Yba.func9, Yba.ntmps9
  go_wp2
  go_loopw [5] (fun i wr => ∃ r q : Nat, r ≤ n ∧ i = .int .i64 r ∧ wr = w.drewN q) (fun i _ => n - (intOf i).toNat)
  case atStart => exact ⟨0, 0, Nat.zero_le _, rfl, rfl⟩
  case round =>
    obtain ⟨r, q, hrn, rfl, rfl⟩ := hrel
    by_cases hlt : r < n
    · have kx := hx r hlt
      have ky := hy r hlt
      go_wp2
      go_quiet (fail)
      go_wp2
      go_roundw
      case rel => exact ⟨r + 1, _, by omega, by go_num, rfl⟩
      case measure => simp [intOf]; omega
    · go_wp2
      go_ret
      exact ⟨rfl, q, rfl⟩

/-- zzs0779beq of two slices that hold the same bytes. -/
theorem eq_any (v x : Value) (zs : List Int) (w : World) (hn : zs.length ≤ 1000000) (hv : SrcB w v zs) (hx : SrcB w x zs) :
    Calls Yba.prog 9 #[v, x] w fun e w' => e = .returned (.bool true) ∧ ∃ q, w' = w.drewN q := by
  rcases hv with ⟨rfl, rfl⟩ | ⟨a, c, rfl, hv⟩
  · rcases hx with ⟨rfl, _⟩ | ⟨b, c', rfl, _⟩
    · exact eq_empty _ _ _ _ w
    · exact eq_empty _ _ _ _ w
  · rcases hx with ⟨rfl, rfl⟩ | ⟨b, c', rfl, hx⟩
    · exact eq_empty _ _ _ _ w
    · exact eq_same a b zs.length c c' (fun j => zs.getD j 0) w hn hv hx

/-- What zzs0779bline gives. -/
def lineOf (ind : Bool) (d : Nat) : List Int := if ind then 10 :: List.replicate (2 * d) 32 else []

set_option maxRecDepth 100000 in
set_option maxHeartbeats 400000 in
theorem line_no (d : Int) (w : World) : Calls Yba.prog 8 #[.bool false, .int .i64 d] w fun e w' => e = .returned (.slice none 0 0) ∧ w = w' := by
  go_enter Yba.func8, Yba.ntmps8
  go_wp2
  go_ret
  exact ⟨rfl, rfl⟩

theorem rep_snoc (r : Nat) : (10 : Int) :: List.replicate r 32 ++ [32] = 10 :: List.replicate (r + 1) 32 := by
  rw [List.cons_append, List.replicate_succ', ]

set_option maxRecDepth 100000 in
set_option maxHeartbeats 1000000 in
theorem line_yes (d : Nat) (hd : d ≤ 255) (w : World) : Calls Yba.prog 8 #[.bool true, .int .i64 (d : Int)] w fun e w' => ∃ v, e = .returned v ∧ Own w' w.heap.size v (10 :: List.replicate (2 * d) 32) ∧ Below w.heap.size w w' := by
  go_enter Yba.func8, Yba.ntmps8
  go_wp2
  go_loopw [5, 6] (fun v i wr => ∃ r : Nat, r ≤ 2 * d ∧ i = .int .i64 r ∧ Own wr w.heap.size v (10 :: List.replicate r 32) ∧ Below w.heap.size w wr) (fun _ i _ => 2 * d - (intOf i).toNat)
  case atStart =>
    refine ⟨0, Nat.zero_le _, rfl, ?_, (Below.refl _ _).alloc (Nat.le_refl _) _⟩
    refine ⟨by simp [ints], .inr ⟨w.heap.size, 1, #[.int .u8 10], rfl, Nat.le_refl _, (Go.MapKept.heap_alloc w _).1, by simp, by unfold maxLen; omega, rfl, by simp [ints]⟩⟩
  case round =>
    obtain ⟨r, hr, rfl, ho, hb⟩ := hrel
    have hsz := hb.size
    have hle : (10 :: List.replicate r (32 : Int)).length + [(32 : Int)].length = r + 2 := by simp
    by_cases hlt : r < 2 * d
    · go_wp2_with (at_builtin; refine wpList_append_bytes rfl _ _ rfl w.heap.size _ _ _ [32] (ho.alloc _) (src_one _ _) rfl rfl (r + 2) hle (by omega) (by simp; omega) ?_; intro a' c' w1 ho1 hg1 hl1)
      go_roundw
      case rel =>
        refine ⟨r + 1, by omega, by go_num, by rw [← rep_snoc]; exact ho1, ?_⟩
        exact (hb.alloc hsz _).grown hg1 (by simp; omega) (fun k hk => (ho.lt hk).1)
      case measure => simp [intOf]; omega
    · obtain rfl : r = 2 * d := by omega
      go_wp2
      go_ret
      exact ⟨_, rfl, ho, hb⟩
end Go.Proofs.Ybulkpcm
