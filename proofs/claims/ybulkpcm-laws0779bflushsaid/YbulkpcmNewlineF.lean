/-
  THE CONTRACTS of newline (12) of a writer with a sink: nothing to hand on; an error stands; it hands on.
-/
import Derived.Test.YbulkpcmFlushFn
namespace Go.Proofs.Ybulkpcm
open Go.RowKit Go.MapKept

theorem Flushed.step {w w1 w2 : World} {Z : Nat} {fail : Value} {bs : List Int} {S T : Nat → Prop} (h : Flushed w w1 Z fail bs S) (hf : Fr w1 w2 T) (hT : ∀ k, T k → k < w.heap.size ∧ k ≠ Z ∧ S k) : Flushed w w2 Z fail bs S := by
  obtain ⟨⟨g, cg, ca, cn, cc, h1, h2, h3, h4⟩, hfr⟩ := h
  refine ⟨⟨g, cg, ca, cn, cc, h1.kept (hf.block Z h1.lt (fun t => (hT Z t).2.1 rfl)), hf.cell h2 (fun t => ?_), h3.kept (fun k e => hf.block k (h3.lt e).2 (fun t => ?_)), h4⟩, hfr.trans hf (fun i _ t => .inr (hT i t).2.2)⟩
  · have := (hT g t).1
    omega
  · have := (hT k t).1
    have := (h3.lt e).1
    omega

theorem JW.mine_lt {w : World} {B J : Nat} {dst buf err : Value} {ind : Bool} {d : Int} {emp : Bool} {pad : Value} {bs ps : List Int} (h : JW w B J dst buf err ind d emp pad bs ps) {k : Nat} (hk : Mine J buf pad k) : k < w.heap.size := by
  rcases hk with rfl | hk | hk
  · exact h.lt
  · exact (h.ob.lt hk).2
  · exact (h.op.lt hk).2

theorem mine_cut (J : Nat) (ba : Option Addr) (bn bc : Nat) (pad : Value) (k : Nat) : Mine J (.slice ba 0 bc) pad k ↔ Mine J (.slice ba bn bc) pad k := by
  have he : (Value.slice ba 0 bc).ownBlock = (Value.slice ba bn bc).ownBlock := by cases ba <;> rfl
  unfold Mine
  rw [he]

set_option maxRecDepth 100000 in
set_option maxHeartbeats 1000000 in
theorem newline_small_no (B J Z : Nat) (ba : Option Addr) (bn bc : Nat) (err : Value) (d : Nat) (emp : Bool) (pad : Value) (bs ps : List Int) (w : World) (hbn : bn < 65536) (h : JW w B J (.iface 35 (.pointer (some ⟨Z, 0, none⟩))) (.slice ba bn bc) err false d emp pad bs ps) :
    Calls Yba.prog 12 #[.pointer (some ⟨J, 0, none⟩)] w fun e w' => e = .returned (.tuple #[]) ∧ w = w' := by
  obtain ⟨c0, c1, c2, c3, c4, c5, c6⟩ := h.cells
  have hbi : decide ((65536 : Int) ≤ (bn : Int)) = false := by simp; omega
  go_enter Yba.func12, Yba.ntmps12
  go_wp2
  exact bodyPost_ret (v := .tuple #[]) (by simp [results, Yba.results12, go_sem]) rfl ⟨rfl, rfl⟩

set_option maxRecDepth 100000 in
set_option maxHeartbeats 1000000 in
theorem newline_small_yes (B J Z : Nat) (ba : Option Addr) (bn bc : Nat) (err : Value) (d : Nat) (emp : Bool) (pad : Value) (bs : List Int) (p : Nat) (w : World) (hbn : bn < 65536) (hd : d ≤ 255) (hp : p ≤ 600) (hbl : bs.length ≤ 100000) (hB : B ≤ w.heap.size)
    (h : JW w B J (.iface 35 (.pointer (some ⟨Z, 0, none⟩))) (.slice ba bn bc) err true d emp pad bs (List.replicate p 32)) :
    Calls Yba.prog 12 #[.pointer (some ⟨J, 0, none⟩)] w fun e w' => e = .returned (.tuple #[]) ∧ ∃ buf' pad', JW w' B J (.iface 35 (.pointer (some ⟨Z, 0, none⟩))) buf' err true d emp pad' (bs ++ 10 :: List.replicate (2 * d) 32) (List.replicate (max p (2 * d)) 32) ∧ Stp w w' J (.slice ba bn bc) pad buf' pad' := by
  obtain ⟨c0, c1, c2, c3, c4, c5, c6⟩ := h.cells
  have hbi : decide ((65536 : Int) ≤ (bn : Int)) = false := by simp; omega
  go_enter Yba.func12, Yba.ntmps12
  go_wp2
  go_loopw [32] (fun _ wr => ∃ pad' p', JW wr B J (.iface 35 (.pointer (some ⟨Z, 0, none⟩))) (.slice ba bn bc) err true d emp pad' bs (List.replicate p' 32) ∧ Stp w wr J (.slice ba bn bc) pad (.slice ba bn bc) pad' ∧ p ≤ p' ∧ (p' = p ∨ p' ≤ 2 * d)) (fun _ wr => 2 * d - padLen wr J)
  case atStart => exact ⟨pad, p, h, Stp.refl _ _ _ _, Nat.le_refl _, .inl rfl⟩
  case round =>
    obtain ⟨pad', p', hj, hs, hp1, hp2⟩ := hrel
    clear c0 c1 c2 c3 c4 c5 c6
    obtain ⟨c0, c1, c2, c3, c4, c5, c6⟩ := hj.cells
    have hf6 := hj.free 6
    have hpl := padLen_of hj
    obtain ⟨pa, pc, hpa⟩ := hj.op.len
    subst hpa
    have hsz := hs.fr.size
    have hpl2 : (List.replicate p' (32 : Int)).length = p' := List.length_replicate
    rw [hpl2] at c6 hpl
    by_cases hlt : p' < 2 * d
    · have hle : (List.replicate p' (32 : Int)).length + [(32 : Int)].length = p' + 1 := by simp
      have HS : Hid _ := hs
      have HL : Hid _ := hpl
      clear hs hpl
      go_wp2_with (at_builtin; refine wpList_append_bytes rfl _ _ rfl B (.slice pa p' pc) _ (List.replicate p' 32) [32] (by have q := hj.op.alloc (.cells #[.int .u8 32] 5); rw [hpl2] at q; exact q) (src_one _ _) rfl rfl (p' + 1) hle (by omega) (by simp; omega) ?_; intro a' c' w1 ho1 hg1 hl1; obtain ⟨e0, e1, e2, e3, e4, e5, e6, ef⟩ := (hj.alloc _).beside hg1 (by rw [← hpl2]; exact hj.pad_ne))
      have hj2 := (hj.alloc (.cells #[.int .u8 32] 5)).setPad ho1 (by rw [hpl2]; exact hg1) (by rw [hpl2]; exact hl1)
      have hs2 := (HS.out.trans (Stp.alloc _ (.cells #[.int .u8 32] 5) _ _ _)).trans (Stp.setPad (J := J) (buf := (.slice ba bn bc)) (pad := Value.slice pa (List.replicate p' 32).length pc) (by rw [hpl2]; exact hg1) (by rw [hpl2]; exact hl1))
      rw [← List.replicate_succ'] at hj2
      go_roundw
      case rel => exact ⟨_, p' + 1, hj2, hs2, by omega, by omega⟩
      case measure => rw [padLen_of hj2, HL.out]; simp; omega
    · have hle : bs.length + [(10 : Int)].length = bs.length + 1 := by simp
      go_wp2_with (at_builtin; refine wpList_append_bytes rfl _ _ rfl B _ _ _ [10] (hj.ob.alloc _) (src_one _ _) rfl rfl (bs.length + 1) hle (by omega) (by simp; omega) ?_; intro a' c' w1 ho1 hg1 hl1; obtain ⟨e0, e1, e2, e3, e4, e5, e6, ef⟩ := (hj.alloc _).beside hg1 hj.buf_ne)
      have hj2 := (hj.alloc _).setBuf ho1 hg1 hl1
      have hs2 := (hs.trans (Stp.alloc _ _ _ _ _)).trans (Stp.setBuf (J := J) (pad := Value.slice pa (List.replicate p' 32).length pc) hg1 hl1)
      rw [hpl2] at hj2 hs2
      clear e0 e1 e2 e3 e4 e5 e6 ef hj hs c0 c1 c2 c3 c4 c5 c6 hg1 hl1 ho1 h hpl
      revert hj2 hs2
      generalize w1.setCell ⟨J, 1, none⟩ (.slice a' (bs.length + 1) c') = W2
      intro hj2 hs2
      obtain ⟨hsr, hpc, -⟩ := hj2.op.head (m := 2 * d) (by omega)
      rw [List.take_replicate, Nat.min_eq_left (by omega)] at hsr
      obtain ⟨v3, w3, hrun, ho3, hg3, hl3⟩ := (hj2.ob.drew).append (w := W2.drew) (x := .slice pa (2 * d) pc) hsr (by simp; omega) (by have := hs2.fr.size; show B ≤ W2.heap.size; omega) 22
      obtain ⟨a3, c3', e3⟩ := ho3.len
      have hlen3 : (bs ++ [(10 : Int)] ++ List.replicate (2 * d) (32 : Int)).length = bs.length + (2 * d + 1) := by simp only [List.length_append, List.length_cons, List.length_nil, List.length_replicate]; omega
      rw [hlen3] at e3
      clear hlen3
      subst e3
      obtain ⟨f0, f1, f2, f3, f4, f5, f6⟩ := hj2.cells
      obtain ⟨g0, g1, g2, g3, g4, g5, g6, gf⟩ := (hj2.drew).beside hg3 hj2.buf_ne
      have hj3 := (hj2.drew).setBuf ho3 hg3 hl3
      have hs3 := (hs2.trans (Stp.drew _ _ _ _)).trans (Stp.setBuf (J := J) (pad := Value.slice pa p' pc) hg3 hl3)
      have htn : (2 * (d : Int)).toNat = 2 * d := by omega
      have hpc' : 2 * (d : Int) ≤ (pc : Int) := by omega
      have hpd : 0 ≤ 2 * (d : Int) := by omega
      have Hmax : Hid (p' = max p (2 * d)) := (by omega : p' = max p (2 * d))
      clear hj2 hs2 ho3 hg3 hl3 hsr
      go_region_law (refine step_append_run rfl (.tmp 57) (.tmp 63) 22 rfl (by simp [Act.eval, Act.put]) (by simp [Act.eval, Act.put]) hrun ?_)
      all_goals
        go_wp2
        go_end0
        refine ⟨rfl, _, _, ?_, hs3⟩
        rw [← Hmax.out]
        simpa using hj3

set_option maxRecDepth 100000 in
set_option maxHeartbeats 1000000 in
theorem newline_pre_no (B J Z : Nat) (ba : Option Addr) (bn bc : Nat) (et : TypeId) (ev : Value) (d : Nat) (emp : Bool) (pad : Value) (bs ps : List Int) (w : World) (hbn : 65536 ≤ bn) (h : JW w B J (.iface 35 (.pointer (some ⟨Z, 0, none⟩))) (.slice ba bn bc) (.iface et ev) false d emp pad bs ps) :
    Calls Yba.prog 12 #[.pointer (some ⟨J, 0, none⟩)] w fun e w' => e = .returned (.tuple #[]) ∧ JW w' B J (.iface 35 (.pointer (some ⟨Z, 0, none⟩))) (.slice ba 0 bc) (.iface et ev) false d emp pad [] ps ∧ Stp w w' J (.slice ba bn bc) pad (.slice ba 0 bc) pad := by
  obtain ⟨c0, c1, c2, c3, c4, c5, c6⟩ := h.cells
  have hbi : (65536 : Int) ≤ (bn : Int) := by omega
  go_enter Yba.func12, Yba.ntmps12
  go_wp2_with (go_at_call 14; refine (flush_pre B J _ _ ba bn bc et ev false _ emp pad bs ps _ h).mono ?_; rintro e w1 ⟨rfl, h1, s1⟩; obtain ⟨b0, b1, b2, b3, b4, b5, b6⟩ := h1.cells)
  exact bodyPost_ret (v := .tuple #[]) (by simp [results, Yba.results12, go_sem]) rfl ⟨rfl, h1, s1⟩

set_option maxRecDepth 100000 in
set_option maxHeartbeats 1000000 in
theorem newline_pre_yes (B J Z : Nat) (ba : Option Addr) (bn bc : Nat) (et : TypeId) (ev : Value) (d : Nat) (emp : Bool) (pad : Value) (bs : List Int) (p : Nat) (w : World) (hbn : 65536 ≤ bn) (hd : d ≤ 255) (hp : p ≤ 600) (hB0 : B ≤ w.heap.size)
    (h : JW w B J (.iface 35 (.pointer (some ⟨Z, 0, none⟩))) (.slice ba bn bc) (.iface et ev) true d emp pad bs (List.replicate p 32)) :
    Calls Yba.prog 12 #[.pointer (some ⟨J, 0, none⟩)] w fun e w' => e = .returned (.tuple #[]) ∧ ∃ buf' pad', JW w' B J (.iface 35 (.pointer (some ⟨Z, 0, none⟩))) buf' (.iface et ev) true d emp pad' (10 :: List.replicate (2 * d) 32) (List.replicate (max p (2 * d)) 32) ∧ Stp w w' J (.slice ba bn bc) pad buf' pad' := by
  obtain ⟨c0, c1, c2, c3, c4, c5, c6⟩ := h.cells
  have hbi : (65536 : Int) ≤ (bn : Int) := by omega
  have hbl : ([] : List Int).length ≤ 100000 := by simp
  go_enter Yba.func12, Yba.ntmps12
  go_wp2_with (go_at_call 14; refine (flush_pre B J _ _ ba bn bc et ev true _ emp pad bs _ _ h).mono ?_; rintro e w1 ⟨rfl, h1, s1⟩; obtain ⟨b0, b1, b2, b3, b4, b5, b6⟩ := h1.cells)
  have hB : B ≤ w1.heap.size := by have := s1.fr.size; omega
  clear h c0 c1 c2 c3 c4 c5 c6
  go_loopw [32] (fun _ wr => ∃ pad' p', JW wr B J (.iface 35 (.pointer (some ⟨Z, 0, none⟩))) (.slice ba 0 bc) (.iface et ev) true d emp pad' ([] : List Int) (List.replicate p' 32) ∧ Stp w1 wr J (.slice ba 0 bc) pad (.slice ba 0 bc) pad' ∧ p ≤ p' ∧ (p' = p ∨ p' ≤ 2 * d)) (fun _ wr => 2 * d - padLen wr J)
  case atStart => exact ⟨pad, p, h1, Stp.refl _ _ _ _, Nat.le_refl _, .inl rfl⟩
  case round =>
    obtain ⟨pad', p', hj, hs, hp1, hp2⟩ := hrel
    clear b0 b1 b2 b3 b4 b5 b6
    obtain ⟨c0, c1, c2, c3, c4, c5, c6⟩ := hj.cells
    have hf6 := hj.free 6
    have hpl := padLen_of hj
    obtain ⟨pa, pc, hpa⟩ := hj.op.len
    subst hpa
    have hsz := hs.fr.size
    have hpl2 : (List.replicate p' (32 : Int)).length = p' := List.length_replicate
    rw [hpl2] at c6 hpl
    by_cases hlt : p' < 2 * d
    · have hle : (List.replicate p' (32 : Int)).length + [(32 : Int)].length = p' + 1 := by simp
      have HS : Hid _ := hs
      have HL : Hid _ := hpl
      clear hs hpl
      go_wp2_with (at_builtin; refine wpList_append_bytes rfl _ _ rfl B (.slice pa p' pc) _ (List.replicate p' 32) [32] (by have q := hj.op.alloc (.cells #[.int .u8 32] 5); rw [hpl2] at q; exact q) (src_one _ _) rfl rfl (p' + 1) hle (by omega) (by simp; omega) ?_; intro a' c' w1 ho1 hg1 hl1; obtain ⟨e0, e1, e2, e3, e4, e5, e6, ef⟩ := (hj.alloc _).beside hg1 (by rw [← hpl2]; exact hj.pad_ne))
      have hj2 := (hj.alloc (.cells #[.int .u8 32] 5)).setPad ho1 (by rw [hpl2]; exact hg1) (by rw [hpl2]; exact hl1)
      have hs2 := (HS.out.trans (Stp.alloc _ (.cells #[.int .u8 32] 5) _ _ _)).trans (Stp.setPad (J := J) (buf := (.slice ba 0 bc)) (pad := Value.slice pa (List.replicate p' 32).length pc) (by rw [hpl2]; exact hg1) (by rw [hpl2]; exact hl1))
      rw [← List.replicate_succ'] at hj2
      go_roundw
      case rel => exact ⟨_, p' + 1, hj2, hs2, by omega, by omega⟩
      case measure => rw [padLen_of hj2, HL.out]; simp; omega
    · have hle : ([] : List Int).length + [(10 : Int)].length = ([] : List Int).length + 1 := by simp
      go_wp2_with (at_builtin; refine wpList_append_bytes rfl _ _ rfl B _ _ _ [10] (hj.ob.alloc _) (src_one _ _) rfl rfl (([] : List Int).length + 1) hle (by omega) (by simp; omega) ?_; intro a' c' w1 ho1 hg1 hl1; obtain ⟨e0, e1, e2, e3, e4, e5, e6, ef⟩ := (hj.alloc _).beside hg1 hj.buf_ne)
      have hj2 := (hj.alloc _).setBuf ho1 hg1 hl1
      have hs2 := (hs.trans (Stp.alloc _ _ _ _ _)).trans (Stp.setBuf (J := J) (pad := Value.slice pa (List.replicate p' 32).length pc) hg1 hl1)
      rw [hpl2] at hj2 hs2
      clear e0 e1 e2 e3 e4 e5 e6 ef hj hs c0 c1 c2 c3 c4 c5 c6 hg1 hl1 ho1 h1 hpl
      revert hj2 hs2
      generalize w1.setCell ⟨J, 1, none⟩ (.slice a' (([] : List Int).length + 1) c') = W2
      intro hj2 hs2
      obtain ⟨hsr, hpc, -⟩ := hj2.op.head (m := 2 * d) (by omega)
      rw [List.take_replicate, Nat.min_eq_left (by omega)] at hsr
      obtain ⟨v3, w3, hrun, ho3, hg3, hl3⟩ := (hj2.ob.drew).append (w := W2.drew) (x := .slice pa (2 * d) pc) hsr (by simp; omega) (by have := hs2.fr.size; show B ≤ W2.heap.size; omega) 22
      obtain ⟨a3, c3', e3⟩ := ho3.len
      have hlen3 : (([] : List Int) ++ [(10 : Int)] ++ List.replicate (2 * d) (32 : Int)).length = ([] : List Int).length + (2 * d + 1) := by simp only [List.length_append, List.length_cons, List.length_nil, List.length_replicate]; omega
      rw [hlen3] at e3
      clear hlen3
      subst e3
      obtain ⟨f0, f1, f2, f3, f4, f5, f6⟩ := hj2.cells
      obtain ⟨g0, g1, g2, g3, g4, g5, g6, gf⟩ := (hj2.drew).beside hg3 hj2.buf_ne
      have hj3 := (hj2.drew).setBuf ho3 hg3 hl3
      have hs3 := (hs2.trans (Stp.drew _ _ _ _)).trans (Stp.setBuf (J := J) (pad := Value.slice pa p' pc) hg3 hl3)
      have htn : (2 * (d : Int)).toNat = 2 * d := by omega
      have hpc' : 2 * (d : Int) ≤ (pc : Int) := by omega
      have hpd : 0 ≤ 2 * (d : Int) := by omega
      have Hmax : Hid (p' = max p (2 * d)) := (by omega : p' = max p (2 * d))
      clear hj2 hs2 ho3 hg3 hl3 hsr
      go_region_law (refine step_append_run rfl (.tmp 57) (.tmp 63) 22 rfl (by simp [Act.eval, Act.put]) (by simp [Act.eval, Act.put]) hrun ?_)
      all_goals
        go_wp2
        go_end0
        simp only [List.length_nil, Nat.zero_add] at hs3 hj3
        refine ⟨rfl, _, _, ?_, s1.trans hs3⟩
        rw [← Hmax.out]
        simpa using hj3

set_option maxRecDepth 100000 in
set_option maxHeartbeats 1000000 in
theorem newline_go_no (B J Z : Nat) (ba : Option Addr) (bn bc : Nat) (fail : Value) (d : Nat) (emp : Bool) (pad : Value) (bs ps : List Int) (w : World) (hbn : 65536 ≤ bn) (hbs : bs.length = bn) (hm : bn ≤ 100000) (hf : fail = .nilIface ∨ ∃ t x, fail = .iface t x) (hZ : Sink w Z (.slice none 0 0) fail)
    (h : JW w B J (.iface 35 (.pointer (some ⟨Z, 0, none⟩))) (.slice ba bn bc) .nilIface false d emp pad bs ps) :
    Calls Yba.prog 12 #[.pointer (some ⟨J, 0, none⟩)] w fun e w' => e = .returned (.tuple #[]) ∧ JW w' B J (.iface 35 (.pointer (some ⟨Z, 0, none⟩))) (.slice ba 0 bc) fail false d emp pad [] ps ∧ Flushed w w' Z fail bs (Mine J (.slice ba bn bc) pad) := by
  obtain ⟨c0, c1, c2, c3, c4, c5, c6⟩ := h.cells
  have hbi : (65536 : Int) ≤ (bn : Int) := by omega
  have HF : Hid _ := hf
  have HB : Hid _ := hbs
  clear hf hbs
  go_enter Yba.func12, Yba.ntmps12
  go_wp2_with (go_at_call 14; refine (flush_go B J Z fail ba bn bc false _ emp pad bs ps _ HB.out (by omega) hm HF.out hZ h).mono ?_; rintro e w1 ⟨rfl, h1, s1⟩; obtain ⟨b0, b1, b2, b3, b4, b5, b6⟩ := h1.cells)
  exact bodyPost_ret (v := .tuple #[]) (by simp [results, Yba.results12, go_sem]) rfl ⟨rfl, h1, s1⟩

set_option maxRecDepth 100000 in
set_option maxHeartbeats 1000000 in
theorem newline_go_yes (B J Z : Nat) (ba : Option Addr) (bn bc : Nat) (fail : Value) (d : Nat) (emp : Bool) (pad : Value) (bs : List Int) (p : Nat) (w : World) (hbn : 65536 ≤ bn) (hbs : bs.length = bn) (hm : bn ≤ 100000) (hf : fail = .nilIface ∨ ∃ t x, fail = .iface t x) (hZ : Sink w Z (.slice none 0 0) fail) (hd : d ≤ 255) (hp : p ≤ 600) (hB0 : B ≤ w.heap.size)
    (h : JW w B J (.iface 35 (.pointer (some ⟨Z, 0, none⟩))) (.slice ba bn bc) .nilIface true d emp pad bs (List.replicate p 32)) :
    Calls Yba.prog 12 #[.pointer (some ⟨J, 0, none⟩)] w fun e w' => e = .returned (.tuple #[]) ∧ ∃ buf' pad', JW w' B J (.iface 35 (.pointer (some ⟨Z, 0, none⟩))) buf' fail true d emp pad' (10 :: List.replicate (2 * d) 32) (List.replicate (max p (2 * d)) 32) ∧ Flushed w w' Z fail bs (Mine J (.slice ba bn bc) pad) := by
  obtain ⟨c0, c1, c2, c3, c4, c5, c6⟩ := h.cells
  have hbi : (65536 : Int) ≤ (bn : Int) := by omega
  have hbl : ([] : List Int).length ≤ 100000 := by simp
  have HF : Hid _ := hf
  have HB : Hid _ := hbs
  clear hf hbs
  have HT : Hid (∀ k, Mine J (.slice ba 0 bc) pad k → k < w.heap.size ∧ k ≠ Z ∧ Mine J (.slice ba bn bc) pad k) := fun k hk => ⟨h.mine_lt ((mine_cut J ba bn bc pad k).1 hk), h.not_sink hZ ((mine_cut J ba bn bc pad k).1 hk), (mine_cut J ba bn bc pad k).1 hk⟩
  go_enter Yba.func12, Yba.ntmps12
  go_wp2_with (go_at_call 14; refine (flush_go B J Z fail ba bn bc true _ emp pad bs _ _ HB.out (by omega) hm HF.out hZ h).mono ?_; rintro e w1 ⟨rfl, h1, s1⟩; obtain ⟨b0, b1, b2, b3, b4, b5, b6⟩ := h1.cells)
  have hB : B ≤ w1.heap.size := by have := s1.fr.size; omega
  clear h c0 c1 c2 c3 c4 c5 c6
  go_loopw [32] (fun _ wr => ∃ pad' p', JW wr B J (.iface 35 (.pointer (some ⟨Z, 0, none⟩))) (.slice ba 0 bc) fail true d emp pad' ([] : List Int) (List.replicate p' 32) ∧ Stp w1 wr J (.slice ba 0 bc) pad (.slice ba 0 bc) pad' ∧ p ≤ p' ∧ (p' = p ∨ p' ≤ 2 * d)) (fun _ wr => 2 * d - padLen wr J)
  case atStart => exact ⟨pad, p, h1, Stp.refl _ _ _ _, Nat.le_refl _, .inl rfl⟩
  case round =>
    obtain ⟨pad', p', hj, hs, hp1, hp2⟩ := hrel
    clear b0 b1 b2 b3 b4 b5 b6
    obtain ⟨c0, c1, c2, c3, c4, c5, c6⟩ := hj.cells
    have hf6 := hj.free 6
    have hpl := padLen_of hj
    obtain ⟨pa, pc, hpa⟩ := hj.op.len
    subst hpa
    have hsz := hs.fr.size
    have hpl2 : (List.replicate p' (32 : Int)).length = p' := List.length_replicate
    rw [hpl2] at c6 hpl
    by_cases hlt : p' < 2 * d
    · have hle : (List.replicate p' (32 : Int)).length + [(32 : Int)].length = p' + 1 := by simp
      have HS : Hid _ := hs
      have HL : Hid _ := hpl
      clear hs hpl
      go_wp2_with (at_builtin; refine wpList_append_bytes rfl _ _ rfl B (.slice pa p' pc) _ (List.replicate p' 32) [32] (by have q := hj.op.alloc (.cells #[.int .u8 32] 5); rw [hpl2] at q; exact q) (src_one _ _) rfl rfl (p' + 1) hle (by omega) (by simp; omega) ?_; intro a' c' w1 ho1 hg1 hl1; obtain ⟨e0, e1, e2, e3, e4, e5, e6, ef⟩ := (hj.alloc _).beside hg1 (by rw [← hpl2]; exact hj.pad_ne))
      have hj2 := (hj.alloc (.cells #[.int .u8 32] 5)).setPad ho1 (by rw [hpl2]; exact hg1) (by rw [hpl2]; exact hl1)
      have hs2 := (HS.out.trans (Stp.alloc _ (.cells #[.int .u8 32] 5) _ _ _)).trans (Stp.setPad (J := J) (buf := (.slice ba 0 bc)) (pad := Value.slice pa (List.replicate p' 32).length pc) (by rw [hpl2]; exact hg1) (by rw [hpl2]; exact hl1))
      rw [← List.replicate_succ'] at hj2
      go_roundw
      case rel => exact ⟨_, p' + 1, hj2, hs2, by omega, by omega⟩
      case measure => rw [padLen_of hj2, HL.out]; simp; omega
    · have hle : ([] : List Int).length + [(10 : Int)].length = ([] : List Int).length + 1 := by simp
      go_wp2_with (at_builtin; refine wpList_append_bytes rfl _ _ rfl B _ _ _ [10] (hj.ob.alloc _) (src_one _ _) rfl rfl (([] : List Int).length + 1) hle (by omega) (by simp; omega) ?_; intro a' c' w1 ho1 hg1 hl1; obtain ⟨e0, e1, e2, e3, e4, e5, e6, ef⟩ := (hj.alloc _).beside hg1 hj.buf_ne)
      have hj2 := (hj.alloc _).setBuf ho1 hg1 hl1
      have hs2 := (hs.trans (Stp.alloc _ _ _ _ _)).trans (Stp.setBuf (J := J) (pad := Value.slice pa (List.replicate p' 32).length pc) hg1 hl1)
      rw [hpl2] at hj2 hs2
      clear e0 e1 e2 e3 e4 e5 e6 ef hj hs c0 c1 c2 c3 c4 c5 c6 hg1 hl1 ho1 h1 hpl
      revert hj2 hs2
      generalize w1.setCell ⟨J, 1, none⟩ (.slice a' (([] : List Int).length + 1) c') = W2
      intro hj2 hs2
      obtain ⟨hsr, hpc, -⟩ := hj2.op.head (m := 2 * d) (by omega)
      rw [List.take_replicate, Nat.min_eq_left (by omega)] at hsr
      obtain ⟨v3, w3, hrun, ho3, hg3, hl3⟩ := (hj2.ob.drew).append (w := W2.drew) (x := .slice pa (2 * d) pc) hsr (by simp; omega) (by have := hs2.fr.size; show B ≤ W2.heap.size; omega) 22
      obtain ⟨a3, c3', e3⟩ := ho3.len
      have hlen3 : (([] : List Int) ++ [(10 : Int)] ++ List.replicate (2 * d) (32 : Int)).length = ([] : List Int).length + (2 * d + 1) := by simp only [List.length_append, List.length_cons, List.length_nil, List.length_replicate]; omega
      rw [hlen3] at e3
      clear hlen3
      subst e3
      obtain ⟨f0, f1, f2, f3, f4, f5, f6⟩ := hj2.cells
      obtain ⟨g0, g1, g2, g3, g4, g5, g6, gf⟩ := (hj2.drew).beside hg3 hj2.buf_ne
      have hj3 := (hj2.drew).setBuf ho3 hg3 hl3
      have hs3 := (hs2.trans (Stp.drew _ _ _ _)).trans (Stp.setBuf (J := J) (pad := Value.slice pa p' pc) hg3 hl3)
      have htn : (2 * (d : Int)).toNat = 2 * d := by omega
      have hpc' : 2 * (d : Int) ≤ (pc : Int) := by omega
      have hpd : 0 ≤ 2 * (d : Int) := by omega
      have Hmax : Hid (p' = max p (2 * d)) := (by omega : p' = max p (2 * d))
      clear hj2 hs2 ho3 hg3 hl3 hsr
      go_region_law (refine step_append_run rfl (.tmp 57) (.tmp 63) 22 rfl (by simp [Act.eval, Act.put]) (by simp [Act.eval, Act.put]) hrun ?_)
      all_goals
        go_wp2
        go_end0
        simp only [List.length_nil, Nat.zero_add] at hs3 hj3
        refine ⟨rfl, .slice a3 (2 * d + 1) c3', .slice pa p' pc, ?_, s1.step hs3.fr HT.out⟩
        rw [← Hmax.out]
        simpa using hj3

end Go.Proofs.Ybulkpcm
