/-
  THE PROOF OF 'Rows.LawS0773CClaimFailedSaid' ('example.com/creel/creel.LawS0773CClaimFailed'), filled over the tool's shell.
-/
import Derived.Test.YbulkozgClaims
import Derived.Test.YbulkozgRows
import Derived.WalkKit
import Derived.ProofKit
import Derived.OpenShut
import Derived.ShutString
namespace Go.Proofs.Ybulkozg.lawS0773CClaimFailed
open Go.ChangeShapes Go.WideShapes Go.ChangeAt Go.RowKit
open Go.ChangeMaps (open_string shut_string)
set_option linter.unusedVariables false      -- a walk need not use every 'w<i>' (that an integer argument fits its kind)

theorem own : ownKnob Yba.prog.godebug = none := by kernel_rfl

/-! ### THE WALK: the Go text returns true, and writes nothing that was there. -/
set_option maxRecDepth 100000 in
set_option maxHeartbeats 400000 in
theorem walk (a0 a1 : Bool) (w : World) :
    Calls Yba.prog 6 #[.bool a0, .bool a1] w fun e w' => e = .returned (.bool true) ∧ Below w.heap.size w w' := by
  have hmm := @run_makeMap Yba.prog
  have hn := neq28
  have he := eql24
  cases a1
  · cases a0
    all_goals
      go_enter Yba.func6, Yba.ntmps6
      go_wp2_with fail
      refine (claim_pmap _ w.heap.size 0 (fun _ => none) _ _ _ ?hm ?hp ?hc).mono ?_
      case hm => exact ((((PMap.made w).alloc _).alloc _).alloc _)
      case hp => exact (Plain.new _ _ _ (by simp)).alloc _
      case hc => go_simp
      rintro e w1 ⟨rfl, hp1, ht1⟩
      have hb1 : Below w.heap.size w w1 := Below.trans (((((Below.refl _ _).alloc (Nat.le_refl _) _).alloc (by simp) _).alloc (by simp; omega) _).alloc (by simp; omega) _) (ht1.below (Nat.le_refl _))
      have c0 : w1.cell? ⟨w.heap.size + 1, 0, none⟩ = some (.map (some w.heap.size)) := by rw [ht1.cell (by simp)]; go_simp
      have c7 := ht1.cell (p := ⟨w.heap.size + 1 + 1 + 1, 7, none⟩) (show w.heap.size + 1 + 1 + 1 ≠ w.heap.size by omega)
      have c9 := ht1.cell (p := ⟨w.heap.size + 1 + 1 + 1, 9, none⟩) (show w.heap.size + 1 + 1 + 1 ≠ w.heap.size by omega)
      simp [go_sem] at c7 c9
      have hl := pmap_look hp1 ⟨w.heap.size + 1 + 1, 0, none⟩ (ht1.plain (by exact (Plain.new _ _ _ (by simp)).alloc _)) false
      simp at hl
      clear hp1 ht1
      go_wp2_with (first | (go_at_call 11; refine (running_any _ _ _ c0).mono ?_; rintro e w' ⟨rfl, rfl⟩) | (go_at_call 12; (first | refine (failed_unfinished _ _ _ _ _ c0 hl c7).mono ?_ | refine (failed_noerr _ _ _ _ _ c0 hl c7 c9).mono ?_); rintro e w' ⟨rfl, rfl⟩))
      go_ret
      exact ⟨rfl, hb1⟩
  · cases a0
    all_goals
      go_enter Yba.func6, Yba.ntmps6
      go_wp2_with (first | (go_at_call 10; go_in))
      refine (claim_pmap _ w.heap.size 0 (fun _ => none) _ _ _ ?hm ?hp ?hc).mono ?_
      case hm => exact (((((PMap.made w).alloc _).alloc _).alloc _).alloc _)
      case hp => exact ((Plain.new _ _ _ (by simp)).alloc _).alloc _
      case hc => go_simp
      rintro e w1 ⟨rfl, hp1, ht1⟩
      have hb1 : Below w.heap.size w w1 := Below.trans ((((((Below.refl _ _).alloc (Nat.le_refl _) _).alloc (by simp) _).alloc (by simp; omega) _).alloc (by simp; omega) _).alloc (by simp; omega) _) (ht1.below (Nat.le_refl _))
      have c0 : w1.cell? ⟨w.heap.size + 1, 0, none⟩ = some (.map (some w.heap.size)) := by rw [ht1.cell (by simp)]; go_simp
      have c7 := ht1.cell (p := ⟨w.heap.size + 1 + 1 + 1, 7, none⟩) (show w.heap.size + 1 + 1 + 1 ≠ w.heap.size by omega)
      have c9 := ht1.cell (p := ⟨w.heap.size + 1 + 1 + 1, 9, none⟩) (show w.heap.size + 1 + 1 + 1 ≠ w.heap.size by omega)
      simp [go_sem] at c7 c9
      have hl := pmap_look hp1 ⟨w.heap.size + 1 + 1, 0, none⟩ (ht1.plain (by exact ((Plain.new _ _ _ (by simp)).alloc _).alloc _)) false
      simp at hl
      clear hp1 ht1
      go_wp2_with (first | (go_at_call 11; refine (running_any _ _ _ c0).mono ?_; rintro e w' ⟨rfl, rfl⟩) | (go_at_call 12; (first | refine (failed_unfinished _ _ _ _ _ c0 hl c7).mono ?_ | refine (failed_yes _ _ _ _ _ _ _ c0 hl c7 c9).mono ?_); rintro e w' ⟨rfl, rfl⟩))
      go_ret
      exact ⟨rfl, hb1⟩

/-! ### THE ROW's STEP: WRITTEN OUT: LEAVE IT -/
set_option maxRecDepth 100000 in
theorem lifted (os : Os) (started : os.Started) (H : Type) (enc : TypeId × Value → H) :
    ReturnsInHanded {} Yba.checked os 6 .any (Rows.lawS0773CClaimFailedSpec.pre6 enc Yba.prog Yba.f6 Rows.lawS0773CClaimFailedRow.domain false) (Rows.lawS0773CClaimFailedSpec.post enc Yba.prog Yba.f6 false true false false) := by
  refine returnsInHanded_of_change (C := Yba.checked) own started (by kernel_rfl) Yba.func6
    (ChangeSpec.witness6 (enc := enc) (C := Yba.checked) false ⟨#[], #[.bool false, .bool false], []⟩ 8 (by kernel_rfl) (by kernel_rfl) (by kernel_rfl) (by kernel_rfl)) ?_
  intro W base args ds gs before hval0 hW hcnd _
  have hval : ∀ (j : Nat) t v, Yba.f6.params[j]? = some t → args[j]? = some v → Value.okWide Yba.prog W .any base t v := hval0
  have hW' := hW
  obtain ⟨p, q, hA0, hV, rfl, hfz, hnd⟩ := hW
  have hA : DataW.TrodAll enc Yba.prog W 0 (fun _ => true) true Yba.f6.params.toList args.toList ds p := hA0
  rw [Yba.params6] at hA hval
  obtain ⟨v0, vs0, d0, ds0, p0, q0, hargs, rfl, rfl, h0, r0⟩ := trodAll_cons hA
  obtain ⟨v1, vs1, d1, ds1, p1, q1, rfl, rfl, rfl, h1, r1⟩ := trodAll_cons r0
  obtain ⟨rfl, rfl, rfl⟩ := trodAll_nil r1
  obtain rfl : args = #[v0, v1] := by cases args; simp_all
  obtain ⟨rfl, rfl⟩ := trodVars_none hV
  obtain ⟨a0, rfl, rfl, rfl⟩ := open_bool Yba.underlying4 (hval 0 4 v0 rfl rfl) h0
  obtain ⟨a1, rfl, rfl, rfl⟩ := open_bool Yba.underlying4 (hval 1 4 v1 rfl rfl) h1
  clear hA0 hval0
  simp only [List.append_nil] at hW'
  refine (walk a0 a1 W).mono fun e W' ⟨he, hg⟩ => ?_
  subst he
  exact ⟨_, rfl, _, _, _, [], [], [], hW', trodAll_mk1 (shut_bool Yba.underlying4 _), (trodAll_cons_mk (shut_bool Yba.underlying4 _) (trodAll_cons_mk (shut_bool Yba.underlying4 _) trodAll_mk0)), rfl, hg.frame _, fun h => by cases h⟩

theorem over : Rows.lawS0773CClaimFailedRow.holds Yba.pinned (OpenSpec.ofChange Rows.lawS0773CClaimFailedSpec) :=
  OpenClaim.holds_of_wide 6 Yba.f6 rfl rfl rfl rfl rfl rfl rfl ⟨rfl, rfl, rfl, rfl, rfl⟩ rfl rfl rfl rfl rfl (by kernel_rfl) Yba.func6 (by kernel_rfl)
    (of_decide_eq_true (by kernel_rfl)) (by unfold Func.isWrapper; first | (rw [if_pos (by decide +kernel)]; kernel_rfl) | (rw [if_neg (by decide +kernel)]; exact ⟨rfl, rfl⟩))
    (fun os started H enc _ => lifted os started H enc)

/-- ████ THE STATEMENT ████ -/
theorem proved : Rows.LawS0773CClaimFailedSaid :=
  over
end Go.Proofs.Ybulkozg.lawS0773CClaimFailed
