/-
  THE WALK OF LawS0773CClaimSets: a slice with an address.
-/
import Derived.Test.YbulkozgSets
import Derived.Deep.QuietTactic
import Derived.BigQuiet
namespace Go.Proofs.Ybulkozg
open Go.RowKit

set_option maxRecDepth 100000 in
set_option maxHeartbeats 4000000 in
theorem sets_walk (len cap : Nat) (k : Int) (nb : Bool) (w : World) (bs : Nat → Bool) (hle : len ≤ 1024) (hk0 : 0 ≤ k) (hk : k < 18446744073709551616) (b off : Nat) (hcs : ∀ i, i < len → w.cell? ⟨b, off + i, none⟩ = some (.bool (bs i))) (hbl : b < w.heap.size) :
    Calls Yba.prog 5 #[.slice (some ⟨b, off, none⟩) len cap, .int .u64 k, .bool nb] w fun e w' => e = .returned (.bool true) ∧ Below w.heap.size w w' := by
  have hmm := @run_makeMap Yba.prog
  have hm1 := make44 len hle
  have hm2 := make31 len hle
  have hc0 : decide (1024 < (len : Int)) = false := by simp; omega
  go_enter Yba.func5, Yba.ntmps5
  go_wp2
  go_loopw [11, 12] (fun c i wr => ∃ r : Nat, r ≤ len + 1 ∧ i = .int .i64 r ∧ c = .int .i64 (cnt (fun j => decide (j < len) && bs j) r) ∧ Inv w wr (fun j => decide (j < len) && bs j) (len + 1) r r) (fun _ i _ => len + 1 - (intOf i).toNat)
  case atStart => exact ⟨0, Nat.zero_le _, rfl, rfl, Inv.start w _ _⟩
  case round =>
    obtain ⟨r, hr, rfl, rfl, hinv⟩ := hrel
    by_cases hlt : r < len + 1
    · have hd := (hinv.dcell hlt).1
      have hdf := (hinv.dcell hlt).2
      have ho := (hinv.ocell hlt).1
      have hof := (hinv.ocell hlt).2
      have hv := hinv.vcell
      have hsz : w.heap.size + 1 + 1 + 1 < wr.heap.size := by rw [hinv.size]; omega
      have hsz0 : w.heap.size < wr.heap.size := by omega
      have hsz1 : w.heap.size + 1 < wr.heap.size := by omega
      by_cases hl : r < len
      · have hcr : wr.cell? ⟨b, off + r, none⟩ = some (.bool (bs r)) := by rw [hinv.bel.cell hbl]; exact hcs r hl
        have hb0 : b ≠ w.heap.size := by omega
        have hb1 : b ≠ w.heap.size + 1 := by omega
        have hbw : b < wr.heap.size := by omega
        cases hbs : bs r
        · rw [hbs] at hcr
          go_wp2
          go_roundw
          case rel => exact ⟨r + 1, by omega, by go_num, by simp [cnt, hbs], (hinv.fill hlt _ _ _ _).skip (by simp [hbs])⟩
          case measure => simp [intOf]; omega
        · rw [hbs] at hcr
          go_wp2
          have hF := hinv.fill hlt #[.nilFunc, .bool false, .slice none 0 0, .pointer none, .pointer none, .int .i64 0] #[.pointer none, .string { data := #[111, 108, 100] }, .pointer none, .pointer none, .int .i64 0, .pointer none, .pointer none, .bool false, .nilIface, .nilIface, .slice none 0 0, .pointer none, .chan none] 58 34
          revert hF
          generalize ((((wr.setCell ⟨w.heap.size, r, none⟩ (.pointer (some ⟨wr.heap.size, 0, none⟩))).setCell ⟨w.heap.size + 1, r, none⟩ (.pointer (some ⟨wr.heap.size + 1, 0, none⟩))).alloc (.cells #[.nilFunc, .bool false, .slice none 0 0, .pointer none, .pointer none, .int .i64 0] 58)).alloc (.cells #[.pointer none, .string { data := #[111, 108, 100] }, .pointer none, .pointer none, .int .i64 0, .pointer none, .pointer none, .bool false, .nilIface, .nilIface, .slice none 0 0, .pointer none, .chan none] 34)) = W
          intro hF
          have kd := hF.dat (Nat.lt_succ_self r) hlt
          have ko := hF.oat (Nat.lt_succ_self r) hlt
          have kv := hF.vcell
          obtain ⟨f, hf, hh⟩ := hF.map
          obtain ⟨w1, hu, hp1, ht1⟩ := pmap_store (w := W.drew) hf (dA w.heap.size r) (hF.pl r (Nat.lt_succ_self r)) (.pointer (some (oA w.heap.size r)))
          have hI := (hF.drew).put (by simp [hl, hbs]) hh hp1 ht1
          clear hd hdf ho hof hv hcr
          have hcl := cnt_le (fun j => decide (j < len) && bs j) r
          go_region
          go_wp2
          go_roundw
          case rel => exact ⟨r + 1, by omega, by go_num, by simp [cnt, hbs, hl], hI⟩
          case measure => simp [intOf]; omega
      · go_wp2
        go_roundw
        case rel => exact ⟨r + 1, by omega, by go_num, by simp [cnt, hl], (hinv.fill hlt _ _ _ _).skip (by simp [hl])⟩
        case measure => simp [intOf]; omega
    · obtain rfl : r = len + 1 := by omega
      obtain ⟨f, h2, hh⟩ := hinv.two
      obtain ⟨J, hJ, hkJ⟩ : ∃ J : Nat, J < len + 1 ∧ k % ((len : Int) + 1) = (J : Int) := ⟨(k % ((len : Int) + 1)).toNat, by have := Int.emod_lt_of_pos k (show (0 : Int) < (len : Int) + 1 by omega); have := Int.emod_nonneg k (show (len : Int) + 1 ≠ 0 by omega); omega, by have := Int.emod_nonneg k (show (len : Int) + 1 ≠ 0 by omega); omega⟩
      cases nb
      · go_wp2
        have h3 := h2.alloc (.cells #[.pointer none, .string { data := #[110, 101, 119] }, .pointer none, .pointer none, .int .i64 0, .pointer none, .pointer none, .bool false, .nilIface, .nilIface, .slice none 0 0, .pointer none, .chan none] 34)
        revert h3
        generalize wr.alloc (.cells #[.pointer none, .string { data := #[110, 101, 119] }, .pointer none, .pointer none, .int .i64 0, .pointer none, .pointer none, .bool false, .nilIface, .nilIface, .slice none 0 0, .pointer none, .chan none] 34) = W
        intro h3
        have kd := h3.defs J hJ
        have kv := h3.v0
        cases hg : (decide (J < len) && bs J)
        · have hfJ : f (dA w.heap.size J) = none := by rw [hh J]; simp [hg, hJ]
          have hl : ∀ q, _ := fun q => pmap_look (h3.drewN q).map (dA w.heap.size J) (h3.pl J hJ) true
          simp only [if_true, hfJ] at hl
          go_quiet (fail)
          go_wp2_with fail
          refine (claim_pmap _ _ _ _ _ _ _ (h3.drewN nq).map (h3.pl J hJ) kv).mono ?_
          rintro e W1 ⟨rfl, hp1, ht1⟩
          have h4 := (h3.drewN nq).turned ht1 hp1
          rw [hfJ] at h4
          clear hp1 ht1 hl kd kv
          have kd := h4.defs J hJ
          have kv := h4.v0
          have hl : ∀ q, _ := fun q => pmap_look (h4.drewN q).map (dA w.heap.size J) (h4.pl J hJ) true
          simp only [if_true] at hl
          go_wp2_with fail
          go_quiet (fail)
          have hcl := cnt_le (fun j => decide (j < len) && bs j) (len + 1)
          have hn := neq24
          have hlen : ∀ q, _ := fun q => pmap_len (h4.drewN q).map
          simp at hlen
          go_wp2
          have Hoth : Hid (∀ r, r < len + 1 → r ≠ J → _) := fun r (h1 : r < len + 1) (h2 : r ≠ J) => hh.other (Value.pointer (some ⟨wr.heap.size, 0, none⟩)) h1 h2
          clear hl hlen kd kv hfJ
          go_loopw [19] (fun i wr => ∃ r : Nat, r ≤ len + 1 ∧ i = .int .i64 r ∧ Inv2 w wr (len + 1) _ _) (fun i _ => len + 1 - (intOf i).toNat)
          case atStart => exact ⟨0, Nat.zero_le _, rfl, h4.drewN nq⟩
          case round =>
            obtain ⟨r, hr, rfl, h5⟩ := hrel
            by_cases hlt : r < len + 1
            · by_cases hrJ : r = J
              · subst hrJ
                go_wp2
                go_roundw
                case rel => exact ⟨r + 1, by omega, by go_num, h5⟩
                case measure => simp [intOf]; omega
              · have hrJ' : ((r : Int) == (J : Int)) = false := by simp; omega
                have hkd := h5.defs r hlt
                have hko := h5.olds r hlt
                have hkv := h5.v0
                have hl5 : ∀ q, _ := fun q => pmap_look (h5.drewN q).map (dA w.heap.size r) (h5.pl r hlt) true
                have hoth := Hoth.out r hlt hrJ
                simp only [if_true] at hl5
                by_cases hrl : r < len
                · cases hbs : bs r
                  all_goals
                    have hcr : wr.cell? ⟨b, off + r, none⟩ = some (.bool (bs r)) := by rw [h5.bel.cell hbl]; exact hcs r hrl
                    rw [hbs] at hcr
                    simp [hrl, hbs] at hoth
                    simp only [hoth] at hl5
                    clear hoth
                    go_wp2_with fail
                    go_quiet (fail)
                    go_wp2
                    go_roundw
                    case rel => exact ⟨r + 1, by omega, by go_num, h5.drewN nq⟩
                    case measure => simp [intOf]; omega
                · simp [hrl] at hoth
                  simp only [hoth] at hl5
                  clear hoth
                  go_wp2_with fail
                  go_quiet (fail)
                  go_wp2
                  go_roundw
                  case rel => exact ⟨r + 1, by omega, by go_num, h5.drewN nq⟩
                  case measure => simp [intOf]; omega
            · have hkv1 := h5.v1
              go_wp2
              go_ret
              exact ⟨rfl, h5.bel⟩
        · have hfJ : f (dA w.heap.size J) = some (.pointer (some (oA w.heap.size J))) := by rw [hh J]; simp [hg, hJ]
          have hl : ∀ q, _ := fun q => pmap_look (h3.drewN q).map (dA w.heap.size J) (h3.pl J hJ) true
          simp only [if_true, hfJ] at hl
          go_quiet (fail)
          go_wp2_with fail
          refine (claim_pmap _ _ _ _ _ _ _ (h3.drewN nq).map (h3.pl J hJ) kv).mono ?_
          rintro e W1 ⟨rfl, hp1, ht1⟩
          have h4 := (h3.drewN nq).turned ht1 hp1
          rw [hfJ] at h4
          clear hp1 ht1 hl kd kv
          have kd := h4.defs J hJ
          have kv := h4.v0
          have hl : ∀ q, _ := fun q => pmap_look (h4.drewN q).map (dA w.heap.size J) (h4.pl J hJ) true
          simp only [if_true] at hl
          go_wp2_with fail
          go_quiet (fail)
          have hcl := cnt_le (fun j => decide (j < len) && bs j) (len + 1)
          have hn := neq24
          have hlen : ∀ q, _ := fun q => pmap_len (h4.drewN q).map
          simp at hlen
          go_wp2
          have Hoth : Hid (∀ r, r < len + 1 → r ≠ J → _) := fun r (h1 : r < len + 1) (h2 : r ≠ J) => hh.other (Value.pointer (some ⟨wr.heap.size, 0, none⟩)) h1 h2
          clear hl hlen kd kv hfJ
          go_loopw [19] (fun i wr => ∃ r : Nat, r ≤ len + 1 ∧ i = .int .i64 r ∧ Inv2 w wr (len + 1) _ _) (fun i _ => len + 1 - (intOf i).toNat)
          case atStart => exact ⟨0, Nat.zero_le _, rfl, h4.drewN nq⟩
          case round =>
            obtain ⟨r, hr, rfl, h5⟩ := hrel
            by_cases hlt : r < len + 1
            · by_cases hrJ : r = J
              · subst hrJ
                go_wp2
                go_roundw
                case rel => exact ⟨r + 1, by omega, by go_num, h5⟩
                case measure => simp [intOf]; omega
              · have hrJ' : ((r : Int) == (J : Int)) = false := by simp; omega
                have hkd := h5.defs r hlt
                have hko := h5.olds r hlt
                have hkv := h5.v0
                have hl5 : ∀ q, _ := fun q => pmap_look (h5.drewN q).map (dA w.heap.size r) (h5.pl r hlt) true
                have hoth := Hoth.out r hlt hrJ
                simp only [if_true] at hl5
                by_cases hrl : r < len
                · cases hbs : bs r
                  all_goals
                    have hcr : wr.cell? ⟨b, off + r, none⟩ = some (.bool (bs r)) := by rw [h5.bel.cell hbl]; exact hcs r hrl
                    rw [hbs] at hcr
                    simp [hrl, hbs] at hoth
                    simp only [hoth] at hl5
                    clear hoth
                    go_wp2_with fail
                    go_quiet (fail)
                    go_wp2
                    go_roundw
                    case rel => exact ⟨r + 1, by omega, by go_num, h5.drewN nq⟩
                    case measure => simp [intOf]; omega
                · simp [hrl] at hoth
                  simp only [hoth] at hl5
                  clear hoth
                  go_wp2_with fail
                  go_quiet (fail)
                  go_wp2
                  go_roundw
                  case rel => exact ⟨r + 1, by omega, by go_num, h5.drewN nq⟩
                  case measure => simp [intOf]; omega
            · have hkv1 := h5.v1
              go_wp2
              go_ret
              exact ⟨rfl, h5.bel⟩
      · go_wp2
        have h3 := h2
        have kd := h3.defs J hJ
        have kv := h3.v0
        cases hg : (decide (J < len) && bs J)
        · have hfJ : f (dA w.heap.size J) = none := by rw [hh J]; simp [hg, hJ]
          have hl : ∀ q, _ := fun q => pmap_look (h3.drewN q).map (dA w.heap.size J) (h3.pl J hJ) true
          simp only [if_true, hfJ] at hl
          go_quiet (fail)
          go_wp2_with fail
          refine (claim_pmap _ _ _ _ _ _ _ (h3.drewN nq).map (h3.pl J hJ) kv).mono ?_
          rintro e W1 ⟨rfl, hp1, ht1⟩
          have h4 := (h3.drewN nq).turned ht1 hp1
          rw [hfJ] at h4
          clear hp1 ht1 hl kd kv
          have kd := h4.defs J hJ
          have kv := h4.v0
          have hl : ∀ q, _ := fun q => pmap_look (h4.drewN q).map (dA w.heap.size J) (h4.pl J hJ) true
          simp only [if_true] at hl
          go_wp2_with fail
          go_quiet (fail)
          have hcl := cnt_le (fun j => decide (j < len) && bs j) (len + 1)
          have hn := neq24
          have hlen : ∀ q, _ := fun q => pmap_len (h4.drewN q).map
          simp at hlen
          go_wp2
          have Hoth : Hid (∀ r, r < len + 1 → r ≠ J → _) := fun r (h1 : r < len + 1) (h2 : r ≠ J) => hh.other (Value.pointer none) h1 h2
          clear hl hlen kd kv hfJ
          go_loopw [19] (fun i wr => ∃ r : Nat, r ≤ len + 1 ∧ i = .int .i64 r ∧ Inv2 w wr (len + 1) _ _) (fun i _ => len + 1 - (intOf i).toNat)
          case atStart => exact ⟨0, Nat.zero_le _, rfl, h4.drewN nq⟩
          case round =>
            obtain ⟨r, hr, rfl, h5⟩ := hrel
            by_cases hlt : r < len + 1
            · by_cases hrJ : r = J
              · subst hrJ
                go_wp2
                go_roundw
                case rel => exact ⟨r + 1, by omega, by go_num, h5⟩
                case measure => simp [intOf]; omega
              · have hrJ' : ((r : Int) == (J : Int)) = false := by simp; omega
                have hkd := h5.defs r hlt
                have hko := h5.olds r hlt
                have hkv := h5.v0
                have hl5 : ∀ q, _ := fun q => pmap_look (h5.drewN q).map (dA w.heap.size r) (h5.pl r hlt) true
                have hoth := Hoth.out r hlt hrJ
                simp only [if_true] at hl5
                by_cases hrl : r < len
                · cases hbs : bs r
                  all_goals
                    have hcr : wr.cell? ⟨b, off + r, none⟩ = some (.bool (bs r)) := by rw [h5.bel.cell hbl]; exact hcs r hrl
                    rw [hbs] at hcr
                    simp [hrl, hbs] at hoth
                    simp only [hoth] at hl5
                    clear hoth
                    go_wp2_with fail
                    go_quiet (fail)
                    go_wp2
                    go_roundw
                    case rel => exact ⟨r + 1, by omega, by go_num, h5.drewN nq⟩
                    case measure => simp [intOf]; omega
                · simp [hrl] at hoth
                  simp only [hoth] at hl5
                  clear hoth
                  go_wp2_with fail
                  go_quiet (fail)
                  go_wp2
                  go_roundw
                  case rel => exact ⟨r + 1, by omega, by go_num, h5.drewN nq⟩
                  case measure => simp [intOf]; omega
            · have hkv1 := h5.v1
              go_wp2
              go_ret
              exact ⟨rfl, h5.bel⟩
        · have hfJ : f (dA w.heap.size J) = some (.pointer (some (oA w.heap.size J))) := by rw [hh J]; simp [hg, hJ]
          have hl : ∀ q, _ := fun q => pmap_look (h3.drewN q).map (dA w.heap.size J) (h3.pl J hJ) true
          simp only [if_true, hfJ] at hl
          go_quiet (fail)
          go_wp2_with fail
          refine (claim_pmap _ _ _ _ _ _ _ (h3.drewN nq).map (h3.pl J hJ) kv).mono ?_
          rintro e W1 ⟨rfl, hp1, ht1⟩
          have h4 := (h3.drewN nq).turned ht1 hp1
          rw [hfJ] at h4
          clear hp1 ht1 hl kd kv
          have kd := h4.defs J hJ
          have kv := h4.v0
          have hl : ∀ q, _ := fun q => pmap_look (h4.drewN q).map (dA w.heap.size J) (h4.pl J hJ) true
          simp only [if_true] at hl
          go_wp2_with fail
          go_quiet (fail)
          have hcl := cnt_le (fun j => decide (j < len) && bs j) (len + 1)
          have hn := neq24
          have hlen : ∀ q, _ := fun q => pmap_len (h4.drewN q).map
          simp at hlen
          go_wp2
          have Hoth : Hid (∀ r, r < len + 1 → r ≠ J → _) := fun r (h1 : r < len + 1) (h2 : r ≠ J) => hh.other (Value.pointer none) h1 h2
          clear hl hlen kd kv hfJ
          go_loopw [19] (fun i wr => ∃ r : Nat, r ≤ len + 1 ∧ i = .int .i64 r ∧ Inv2 w wr (len + 1) _ _) (fun i _ => len + 1 - (intOf i).toNat)
          case atStart => exact ⟨0, Nat.zero_le _, rfl, h4.drewN nq⟩
          case round =>
            obtain ⟨r, hr, rfl, h5⟩ := hrel
            by_cases hlt : r < len + 1
            · by_cases hrJ : r = J
              · subst hrJ
                go_wp2
                go_roundw
                case rel => exact ⟨r + 1, by omega, by go_num, h5⟩
                case measure => simp [intOf]; omega
              · have hrJ' : ((r : Int) == (J : Int)) = false := by simp; omega
                have hkd := h5.defs r hlt
                have hko := h5.olds r hlt
                have hkv := h5.v0
                have hl5 : ∀ q, _ := fun q => pmap_look (h5.drewN q).map (dA w.heap.size r) (h5.pl r hlt) true
                have hoth := Hoth.out r hlt hrJ
                simp only [if_true] at hl5
                by_cases hrl : r < len
                · cases hbs : bs r
                  all_goals
                    have hcr : wr.cell? ⟨b, off + r, none⟩ = some (.bool (bs r)) := by rw [h5.bel.cell hbl]; exact hcs r hrl
                    rw [hbs] at hcr
                    simp [hrl, hbs] at hoth
                    simp only [hoth] at hl5
                    clear hoth
                    go_wp2_with fail
                    go_quiet (fail)
                    go_wp2
                    go_roundw
                    case rel => exact ⟨r + 1, by omega, by go_num, h5.drewN nq⟩
                    case measure => simp [intOf]; omega
                · simp [hrl] at hoth
                  simp only [hoth] at hl5
                  clear hoth
                  go_wp2_with fail
                  go_quiet (fail)
                  go_wp2
                  go_roundw
                  case rel => exact ⟨r + 1, by omega, by go_num, h5.drewN nq⟩
                  case measure => simp [intOf]; omega
            · have hkv1 := h5.v1
              go_wp2
              go_ret
              exact ⟨rfl, h5.bel⟩

end Go.Proofs.Ybulkozg
