/-
  THE WALK OF LawS0773BAdd.
-/
import Derived.Test.YbulkozgExact
namespace Go.Proofs.Ybulkozg
open Go.RowKit

theorem shift_twice (p a b : Int) : wrap64 (wrap64 (p + a) + b) = wrap64 (p + wrap64 (a + b)) := by
  unfold wrap64
  omega

theorem shift_back (p a : Int) (h : -9223372036854775808 ≤ p ∧ p ≤ 9223372036854775807) : wrap64 (wrap64 (p + a) + wrap64 (-a)) = p := by
  unfold wrap64
  omega

set_option maxRecDepth 100000 in
set_option maxHeartbeats 400000 in
theorem add_long (a0 : Option Addr) (len cap : Nat) (v1 v2 v3 : Value) (w : World) (h : 1024 < len) :
    Calls Yba.prog 4 #[.slice a0 len cap, v1, v2, v3] w fun e w' => e = .returned (.bool true) ∧ Below w.heap.size w w' := by
  have hc0 : (1024 : Int) < (len : Int) := by omega
  go_enter Yba.func4, Yba.ntmps4
  go_wp2
  go_ret
  exact ⟨rfl, Below.refl _ _⟩

set_option maxRecDepth 100000 in
set_option maxHeartbeats 400000 in
theorem add_nil (v1 : Value) (s t : Int) (w : World) :
    Calls Yba.prog 4 #[.slice none 0 0, v1, .int .i64 s, .int .i64 t] w fun e w' => e = .returned (.bool true) ∧ Below w.heap.size w w' := by
  have hq := fun w => Lib.run_eql_slice_nil (P := Yba.prog) w 35 39 none 0 0 0 0 Yba.underlying35
  go_enter Yba.func4, Yba.ntmps4
  go_wp2_with (first | (go_at_call 7; refine (marks_nil _ _ _ _ _ _).mono ?_; rintro e w' ⟨rfl, rfl⟩) | (go_at_call 8; refine (shifted_none _ _ _ _).mono ?_; rintro e w' ⟨rfl, rfl⟩))
  go_ret
  exact ⟨rfl, ((Below.refl _ _).alloc (Nat.le_refl _) _).alloc (by simp) _⟩

set_option maxRecDepth 100000 in
set_option maxHeartbeats 1000000 in
theorem add_any (x : Addr) (len cap : Nat) (z0 : Nat → Int) (a1 : Option Addr) (len1 cap1 : Nat) (z1 : Nat → Int) (s t : Int) (w : World) (hn : len ≤ 1024)
    (h0 : ∀ i, i < len → w.cell? (x.add i) = some (.int .i64 (z0 i)))
    (h1 : len1 ≤ 0 ∨ ∃ y, a1 = some y ∧ len1 ≤ maxLen ∧ ∀ i, i < len1 → w.cell? (y.add i) = some (.int .u8 (z1 i)) ∧ 0 ≤ z1 i ∧ z1 i ≤ 255)
    (hbz : ∀ i, i < len → -9223372036854775808 ≤ z0 i ∧ z0 i ≤ 9223372036854775807) :
    Calls Yba.prog 4 #[.slice (some x) len cap, .slice a1 len1 cap1, .int .i64 s, .int .i64 t] w fun e w' => e = .returned (.bool true) ∧ Below w.heap.size w w' := by
  have hq := fun w => Lib.run_eql_slice_nil (P := Yba.prog) w 35 39 none 0 0 0 0 Yba.underlying35
  have hc0 : decide (1024 < (len : Int)) = false := by simp; omega
  have hnq := neq24q
  go_enter Yba.func4, Yba.ntmps4
  go_wp2_with fail
  refine (marks_any x len cap z0 a1 len1 cap1 z1 _ _ _ hn ?h0 ?h1).mono ?_
  case h0 =>
    intro i hi
    have kb := World.block_lt_of_cell? _ _ (h0 i hi)
    rw [(((Below.refl w.heap.size w).alloc (Nat.le_refl _) _).alloc (by simp) _).cell kb]
    exact h0 i hi
  case h1 =>
    rcases h1 with h1 | ⟨y, rfl, hm, h1⟩
    · exact .inl h1
    · refine .inr ⟨y, rfl, hm, fun i hi => ?_⟩
      have kb := World.block_lt_of_cell? _ _ (h1 i hi).1
      rw [(((Below.refl w.heap.size w).alloc (Nat.le_refl _) _).alloc (by simp) _).cell kb]
      exact h1 i hi
  rintro e w3 ⟨rfl, hb3, hr3⟩
  generalize hQ : (fun j => pick (sel z1 len1 j) _ _) = Q at hr3
  clear hQ
  have hB : Below w.heap.size w w3 := Below.trans (((Below.refl w.heap.size w).alloc (Nat.le_refl _) _).alloc (by simp) _) (hb3.mono (by simp <;> omega))
  simp only [World.size_alloc] at hr3
  clear hb3 h1
  by_cases hz : len = 0
  · subst hz
    go_wp2_with (first | (go_at_call 8; refine (shifted_none _ _ _ _).mono ?_; rintro e w' ⟨rfl, rfl⟩))
    go_ret
    exact ⟨rfl, hB⟩
  · have hz' : ((len : Int) == 0) = false := by simp; omega
    have hl3 := hr3.lt
    go_wp2_with fail
    refine (shifted_any _ len _ z0 Q s _ (by omega) hn ?hr4).mono ?_
    case hr4 => exact hr3
    rintro e w4 ⟨rfl, hb4, hr4⟩
    go_wp2_with fail
    refine (shifted_any _ len _ (fun j => wrap64 (z0 j + s)) Q t _ (by omega) hn ?hr5).mono ?_
    case hr5 => exact hr4
    rintro e w5 ⟨rfl, hb5, hr5⟩
    have hm4 := hr3.below hb4 hl3
    have hl4 := hr4.lt
    have hm5 := hm4.below hb5 (by omega)
    clear hr4 hm4
    go_wp2_with fail
    refine (shifted_any _ len _ z0 Q _ _ (by omega) hn ?hr6).mono ?_
    case hr6 => exact hm5
    rintro e w6 ⟨rfl, hb6, hr6⟩
    have hl5 := hr5.lt
    have hm6 := hm5.below hb6 (by omega)
    have ht6 := hr5.below hb6 hl5
    clear hm5 hr5
    go_wp2_with fail
    refine (shifted_any _ len _ z0 Q s _ (by omega) hn ?hr7).mono ?_
    case hr7 => exact hm6
    rintro e w7 ⟨rfl, hb7, hr7⟩
    have hl6 := hr6.lt
    have hm7 := hm6.below hb7 (by omega)
    have ht7 := ht6.below hb7 (by omega)
    have ho7 := hr6.below hb7 hl6
    clear hm6 ht6 hr6
    go_wp2_with fail
    refine (shifted_any _ len _ (fun j => wrap64 (z0 j + s)) Q _ _ (by omega) hn ?hr8).mono ?_
    case hr8 => exact hr7
    rintro e w8 ⟨rfl, hb8, hr8⟩
    have hl7 := hr7.lt
    have hm8 := hm7.below hb8 (by omega)
    have ht8 := ht7.below hb8 (by omega)
    have ho8 := ho7.below hb8 (by omega)
    have hB8 : Below w.heap.size w w8 := by
      have := hB.size
      exact (((((hB.trans (hb4.mono (by omega))).trans (hb5.mono (by omega))).trans (hb6.mono (by omega))).trans (hb7.mono (by omega))).trans (hb8.mono (by omega)))
    clear hm7 ht7 ho7 hr7 hb4 hb5 hb6 hb7 hb8 hr3 hB
    go_wp2
    go_loopw [71] (fun i wr => ∃ r : Nat, r ≤ len ∧ i = .int .i64 r ∧ Below w.heap.size w wr ∧ Row wr (w.heap.size + 1 + 1) len len z0 Q ∧ Row wr w4.heap.size len len (fun j => wrap64 (wrap64 (z0 j + s) + t)) Q ∧
        Row wr w5.heap.size len len (fun j => wrap64 (z0 j + wrap64 (s + t))) Q ∧ Row wr w7.heap.size len len (fun j => wrap64 (wrap64 (z0 j + s) + wrap64 (-s))) Q) (fun i _ => len - (intOf i).toNat)
    case atStart => exact ⟨0, Nat.zero_le _, rfl, hB8, hm8, ht8, ho8, hr8⟩
    case round =>
      obtain ⟨r, hrn, rfl, hb, hm, ht, ho, hk⟩ := hrel
      clear hB8 hm8 ht8 ho8 hr8
      by_cases hlt : r < len
      · have m0 := hm.place hlt hlt
        have m1 := hm.build hlt hlt
        have t0 := ht.place hlt hlt
        have t1 := ht.build hlt hlt
        have o0 := ho.place hlt hlt
        have o1 := ho.build hlt hlt
        have k0 := hk.place hlt hlt
        have k1 := hk.build hlt hlt
        simp only [shift_twice] at t0
        simp only [shift_back _ _ (hbz r hlt)] at k0
        go_wp2
        go_quiet (fail)
        go_wp2
        go_quiet (fail)
        go_wp2
        go_roundw
        case rel => exact ⟨r + 1, by omega, by go_num, below_drewN' hb _, hm.drewN _, ht.drewN _, ho.drewN _, hk.drewN _⟩
        case measure => simp [intOf]; omega
      · go_wp2
        go_ret
        exact ⟨rfl, hb⟩
end Go.Proofs.Ybulkozg
