/-
  THE WALK OF LawS0779BFlush: big, no error ahead.
-/
import Derived.Test.YbulkpcmFlushKit
namespace Go.Proofs.Ybulkpcm
open Go.RowKit Go.MapKept
set_option linter.unusedVariables false

set_option maxRecDepth 100000 in
set_option maxHeartbeats 2000000 in
theorem flush_tfff (a0 : Option Addr) (len cap : Nat) (ts : List Int) (ind : Bool) (d : Nat) (w : World) (hn : len ≤ 1024) (hts : ts.length = len) (hd : d ≤ 255) (hsrc : SrcB w (.slice a0 len cap) ts) :
    Calls Yba.prog 4 #[.slice a0 len cap, .bool true, .bool false, .bool false, .bool ind, .bool false, .int .u8 (d : Int)] w fun e w' => e = .returned (.bool true) ∧ Below w.heap.size w w' := by
  have hc0 : decide (1024 < (len : Int)) = false := by simp; omega
  have heq := eql28
  have hneq := neq28
  have hmk := makeFS
  obtain ⟨bn, HB⟩ : ∃ n, Hid (bigN + len = n) := ⟨_, rfl⟩
  obtain ⟨bl, HBL⟩ : ∃ l, Hid (zl ++ ts = l) := ⟨_, rfl⟩
  have hbn1 : 65536 ≤ bn := by have := HB.out; have := bigN_eq; omega
  have hbn2 : bn ≤ 66560 := by have := HB.out; have := bigN_eq; omega
  have HLen : Hid (bl.length = bn) := by have h1 := HB.out; have h2 := HBL.out; exact (by rw [← h2, List.length_append, zl_length, hts, h1] : bl.length = bn)
  have HTS : Hid _ := hts
  go_enter Yba.func4, Yba.ntmps4
  go_wp2_with (first | (at_builtin; refine wpList_append_bytes rfl (.tmp 30) (.tmp 31) rfl w.heap.size _ _ zl ts (own_blank w) (hsrc.kept (fun a u hu => cell_later ((Below.refl w.heap.size w).alloc (Nat.le_refl _) _) hu)) rfl rfl bn (by rw [zl_length, hts]; exact HB.out) (by omega) (by simp) ?_; intro a1 c1 w1 ho1 hg1 hl1; rw [HBL.out] at ho1; have hz1 := hg1.size) | (at_builtin; refine wpList_append_bytes rfl (.const (.slice none 0 0)) (.tmp 33) rfl w.heap.size _ (.slice a1 bn c1) [] bl (own_nil _ _) ho1.src rfl rfl bn (by simpa using HLen.out) (by omega) (by first | omega | (simp at hz1; omega)) ?_; intro a2 c2 w2 ho2 hg2 hl2; simp only [List.nil_append] at ho2; have hz2 := hg2.size) | (at_builtin; refine wpList_append_bytes rfl (.tmp 37) (.tmp 38) rfl w.heap.size (.slice a2 bn c2) _ bl [44] (ho2.alloc _) (src_one _ _) rfl rfl (bn + 1) (by have := HLen.out; simp; omega) (by omega) (by first | (simp; omega) | (simp at hz1 ⊢; omega)) ?_; intro a3 c3 w3 ho3 hg3 hl3; have hz3 := hg3.size) | (go_at_call 10; go_in) | fail)
  have hB1 : Below w.heap.size w w1 := ((Below.refl w.heap.size w).alloc (Nat.le_refl _) _).grown hg1 (by simp) (fun k e => by simp [Value.ownBlock] at e; omega)
  have hz1' : w.heap.size ≤ w1.heap.size := hB1.size
  have hlt1 : ∀ k, (Value.slice a1 bn c1).ownBlock = some k → k < w1.heap.size := fun k e => (ho1.lt e).2
  have hge2 : ∀ k, (Value.slice a2 bn c2).ownBlock = some k → w1.heap.size ≤ k := by
    intro k e
    rcases hl2 with q | q
    · rw [q] at e; cases e
    · rw [q] at e; simp at e; omega
  have hb2 : Below w1.heap.size w1 w2 := (Below.refl w1.heap.size w1).grown hg2 (Nat.le_refl _) (fun k e => by cases e)
  have hb3 : Below w1.heap.size w1 w3 := (hb2.alloc hz2 _).grown hg3 (by simp; omega) (fun k e => hge2 k e)
  have hgeB : ∀ k, (Value.slice a3 (bn + 1) c3).ownBlock = some k → w1.heap.size ≤ k := by
    intro k e
    rcases hl3 with q | q
    · exact hge2 k (q ▸ e)
    · rw [q] at e; simp at e; omega
  have hoB : Own w3 w.heap.size (.slice a3 (bn + 1) c3) (bl ++ commaOf false) := ho3
  have hob : Own w3 w.heap.size (.slice a1 bn c1) bl := ho1.below hb3 hlt1
  have hB3 : Below w.heap.size w w3 := hB1.trans (hb3.mono hz1')
  have hz13 := hb3.size
  clear ho1 ho2 hg1 hg2 hl1 hl2 hz1 hz2 hb2 hge2 hB1 ho3 hg3 hl3 hz3
  refine (member_go w.heap.size (w3.heap.size + 1 + 1 + 1) (w3.heap.size + 1 + 1) a1 bn c1 .nilIface ind d false (.slice none 0 0) bl 0 _ HLen.out hbn1 (by omega) (by first | exact .inl rfl | exact .inr ⟨_, _, rfl⟩) ?qz hd (by omega) ?qB ?qj).mono ?_
  case qz => exact sink_laid w3 _ _ _ _ _
  case qB => have := hB3.size; simp; omega
  case qj => exact jw_laid hob _ _ _
  rintro e w5 ⟨rfl, buf', pad', hj5, hs5⟩
  have hmn : ∀ k, Mine (w3.heap.size + 1 + 1 + 1) (.slice a1 bn c1) (.slice none 0 0) k → k = (w3.heap.size + 1 + 1 + 1) ∨ (Value.slice a1 bn c1).ownBlock = some k := by
    intro k hm
    rcases hm with hm | hm | hm
    · exact .inl hm
    · exact .inr hm
    · cases hm
  have hsB : ∀ k, (Value.slice a3 (bn + 1) c3).ownBlock = some k → ¬ Mine (w3.heap.size + 1 + 1 + 1) (.slice a1 bn c1) (.slice none 0 0) k := by
    intro k e m
    have h1 := hgeB k e
    have h2 := (hoB.lt e).2
    rcases hmn k m with q | q
    · omega
    · have := hlt1 k q; omega
  have hsZ : ¬ Mine (w3.heap.size + 1 + 1 + 1) (.slice a1 bn c1) (.slice none 0 0) (w3.heap.size + 1 + 1) := by
    intro m
    rcases hmn _ m with q | q
    · omega
    · have := hlt1 _ q; omega
  have hB5 : Below w.heap.size w w5 := below_past hB3 hB3.size hs5.fr (fun k m => by
    have := hB3.size
    rcases m with q | m
    · omega
    · rcases hmn k m with q | q
      · omega
      · exact (hob.lt q).1)
  have hoB5 := own_past hoB hs5.fr (fun k e m => by
    rcases m with q | m
    · have := (hoB.lt e).2; omega
    · exact hsB k e m)
  obtain ⟨g, cg, ca, cn, cc, hZ5, hgc, hgo, hgl⟩ := hs5.out
  go_wp2_with fail
  refine (line_any ind d hd w5).mono ?_
  rintro e w6 ⟨vl, rfl, hol, hb6⟩
  have hj6 := hj5.kept (w1 := w6) (fun k hk _ => hb6.block k hk)
  obtain ⟨m0, m1, m2, m3, m4, m5, m6⟩ := hj6.cells
  have hZ6 := hZ5.kept (w1 := w6) (hb6.block _ hZ5.lt)
  obtain ⟨z0, z1⟩ := hZ6.cells
  have hoB6 := hoB5.below hb6 (fun k e => (hoB5.lt e).2)
  have hB6 : Below w.heap.size w w6 := hB5.trans (hb6.mono hB5.size)
  have hsl := hol.src
  have hll := lineOf_len ind d
  have hz6 := hB6.size
  have hbx := hj6.ob.src
  have hgc6 : w6.cell? ⟨g, 0, none⟩ = some (.slice ca cn cc) := by rw [hb6.cell (World.block_lt_of_cell? _ _ hgc)]; exact hgc
  have hgo6 := (hgo.below hb6 (fun k e => (hgo.lt e).2)).src
  have hlin : (lineOf ind d).length ≤ 1000000 := by omega
  have hbdy : (bl ++ commaOf false).length ≤ 1000000 := by have h2 := HLen.out; have h3 := commaOf_len false; rw [List.length_append]; omega
  have hos := hoB6.src
  clear hsB hsZ hmn hgeB hlt1 hs5 hj5 hj6 hb6 hol hZ5 hZ6 hoB5 hob hoB hB5 hb3 hz13 hz1' hoB6 hgc hgo hgl hsrc
  go_wp2_with fail
  refine (eq_any _ _ (bl ++ commaOf false) _ hbdy hgo6 hos).mono ?_
  rintro e w8 ⟨rfl, q8, rfl⟩
  go_wp2_with fail
  refine (eq_any _ _ (lineOf ind d) _ hlin ?r1 ?r2).mono ?_
  case r1 => exact hbx
  case r2 => exact hsl
  rintro e w9 ⟨rfl, q9, rfl⟩
  go_wp2
  go_ret
  exact ⟨rfl, hB6.os, hB6.tape, hB6.output, hB6.size, hB6.block⟩

set_option maxRecDepth 100000 in
set_option maxHeartbeats 2000000 in
theorem flush_tfft (a0 : Option Addr) (len cap : Nat) (ts : List Int) (ind : Bool) (d : Nat) (w : World) (hn : len ≤ 1024) (hts : ts.length = len) (hd : d ≤ 255) (hsrc : SrcB w (.slice a0 len cap) ts) :
    Calls Yba.prog 4 #[.slice a0 len cap, .bool true, .bool false, .bool false, .bool ind, .bool true, .int .u8 (d : Int)] w fun e w' => e = .returned (.bool true) ∧ Below w.heap.size w w' := by
  have hc0 : decide (1024 < (len : Int)) = false := by simp; omega
  have heq := eql28
  have hneq := neq28
  have hmk := makeFS
  obtain ⟨bn, HB⟩ : ∃ n, Hid (bigN + len = n) := ⟨_, rfl⟩
  obtain ⟨bl, HBL⟩ : ∃ l, Hid (zl ++ ts = l) := ⟨_, rfl⟩
  have hbn1 : 65536 ≤ bn := by have := HB.out; have := bigN_eq; omega
  have hbn2 : bn ≤ 66560 := by have := HB.out; have := bigN_eq; omega
  have HLen : Hid (bl.length = bn) := by have h1 := HB.out; have h2 := HBL.out; exact (by rw [← h2, List.length_append, zl_length, hts, h1] : bl.length = bn)
  have HTS : Hid _ := hts
  go_enter Yba.func4, Yba.ntmps4
  go_wp2_with (first | (at_builtin; refine wpList_append_bytes rfl (.tmp 30) (.tmp 31) rfl w.heap.size _ _ zl ts (own_blank w) (hsrc.kept (fun a u hu => cell_later ((Below.refl w.heap.size w).alloc (Nat.le_refl _) _) hu)) rfl rfl bn (by rw [zl_length, hts]; exact HB.out) (by omega) (by simp) ?_; intro a1 c1 w1 ho1 hg1 hl1; rw [HBL.out] at ho1; have hz1 := hg1.size) | (at_builtin; refine wpList_append_bytes rfl (.const (.slice none 0 0)) (.tmp 33) rfl w.heap.size _ (.slice a1 bn c1) [] bl (own_nil _ _) ho1.src rfl rfl bn (by simpa using HLen.out) (by omega) (by first | omega | (simp at hz1; omega)) ?_; intro a2 c2 w2 ho2 hg2 hl2; simp only [List.nil_append] at ho2; have hz2 := hg2.size) | (go_at_call 10; go_in) | fail)
  have hB1 : Below w.heap.size w w1 := ((Below.refl w.heap.size w).alloc (Nat.le_refl _) _).grown hg1 (by simp) (fun k e => by simp [Value.ownBlock] at e; omega)
  have hz1' : w.heap.size ≤ w1.heap.size := hB1.size
  have hlt1 : ∀ k, (Value.slice a1 bn c1).ownBlock = some k → k < w1.heap.size := fun k e => (ho1.lt e).2
  have hge2 : ∀ k, (Value.slice a2 bn c2).ownBlock = some k → w1.heap.size ≤ k := by
    intro k e
    rcases hl2 with q | q
    · rw [q] at e; cases e
    · rw [q] at e; simp at e; omega
  have hb2 : Below w1.heap.size w1 w2 := (Below.refl w1.heap.size w1).grown hg2 (Nat.le_refl _) (fun k e => by cases e)
  have hb3 := hb2
  have hgeB := hge2
  have hoB : Own w2 w.heap.size (.slice a2 bn c2) (bl ++ commaOf true) := by simpa [commaOf] using ho2
  have hob : Own w2 w.heap.size (.slice a1 bn c1) bl := ho1.below hb3 hlt1
  have hB3 : Below w.heap.size w w2 := hB1.trans (hb3.mono hz1')
  have hz13 := hb3.size
  clear ho1 ho2 hg1 hg2 hl1 hl2 hz1 hz2 hb2 hge2 hB1 
  refine (member_go w.heap.size (w2.heap.size + 1 + 1 + 1) (w2.heap.size + 1 + 1) a1 bn c1 .nilIface ind d true (.slice none 0 0) bl 0 _ HLen.out hbn1 (by omega) (by first | exact .inl rfl | exact .inr ⟨_, _, rfl⟩) ?qz hd (by omega) ?qB ?qj).mono ?_
  case qz => exact sink_laid w2 _ _ _ _ _
  case qB => have := hB3.size; simp; omega
  case qj => exact jw_laid hob _ _ _
  rintro e w5 ⟨rfl, buf', pad', hj5, hs5⟩
  have hmn : ∀ k, Mine (w2.heap.size + 1 + 1 + 1) (.slice a1 bn c1) (.slice none 0 0) k → k = (w2.heap.size + 1 + 1 + 1) ∨ (Value.slice a1 bn c1).ownBlock = some k := by
    intro k hm
    rcases hm with hm | hm | hm
    · exact .inl hm
    · exact .inr hm
    · cases hm
  have hsB : ∀ k, (Value.slice a2 bn c2).ownBlock = some k → ¬ Mine (w2.heap.size + 1 + 1 + 1) (.slice a1 bn c1) (.slice none 0 0) k := by
    intro k e m
    have h1 := hgeB k e
    have h2 := (hoB.lt e).2
    rcases hmn k m with q | q
    · omega
    · have := hlt1 k q; omega
  have hsZ : ¬ Mine (w2.heap.size + 1 + 1 + 1) (.slice a1 bn c1) (.slice none 0 0) (w2.heap.size + 1 + 1) := by
    intro m
    rcases hmn _ m with q | q
    · omega
    · have := hlt1 _ q; omega
  have hB5 : Below w.heap.size w w5 := below_past hB3 hB3.size hs5.fr (fun k m => by
    have := hB3.size
    rcases m with q | m
    · omega
    · rcases hmn k m with q | q
      · omega
      · exact (hob.lt q).1)
  have hoB5 := own_past hoB hs5.fr (fun k e m => by
    rcases m with q | m
    · have := (hoB.lt e).2; omega
    · exact hsB k e m)
  obtain ⟨g, cg, ca, cn, cc, hZ5, hgc, hgo, hgl⟩ := hs5.out
  go_wp2_with fail
  refine (line_any ind d hd w5).mono ?_
  rintro e w6 ⟨vl, rfl, hol, hb6⟩
  have hj6 := hj5.kept (w1 := w6) (fun k hk _ => hb6.block k hk)
  obtain ⟨m0, m1, m2, m3, m4, m5, m6⟩ := hj6.cells
  have hZ6 := hZ5.kept (w1 := w6) (hb6.block _ hZ5.lt)
  obtain ⟨z0, z1⟩ := hZ6.cells
  have hoB6 := hoB5.below hb6 (fun k e => (hoB5.lt e).2)
  have hB6 : Below w.heap.size w w6 := hB5.trans (hb6.mono hB5.size)
  have hsl := hol.src
  have hll := lineOf_len ind d
  have hz6 := hB6.size
  have hbx := hj6.ob.src
  have hgc6 : w6.cell? ⟨g, 0, none⟩ = some (.slice ca cn cc) := by rw [hb6.cell (World.block_lt_of_cell? _ _ hgc)]; exact hgc
  have hgo6 := (hgo.below hb6 (fun k e => (hgo.lt e).2)).src
  have hlin : (lineOf ind d).length ≤ 1000000 := by omega
  have hbdy : (bl ++ commaOf true).length ≤ 1000000 := by have h2 := HLen.out; have h3 := commaOf_len true; rw [List.length_append]; omega
  have hos := hoB6.src
  clear hsB hsZ hmn hgeB hlt1 hs5 hj5 hj6 hb6 hol hZ5 hZ6 hoB5 hob hoB hB5 hb3 hz13 hz1' hoB6 hgc hgo hgl hsrc
  go_wp2_with fail
  refine (eq_any _ _ (bl ++ commaOf true) _ hbdy hgo6 hos).mono ?_
  rintro e w8 ⟨rfl, q8, rfl⟩
  go_wp2_with fail
  refine (eq_any _ _ (lineOf ind d) _ hlin ?r1 ?r2).mono ?_
  case r1 => exact hbx
  case r2 => exact hsl
  rintro e w9 ⟨rfl, q9, rfl⟩
  go_wp2
  go_ret
  exact ⟨rfl, hB6.os, hB6.tape, hB6.output, hB6.size, hB6.block⟩

set_option maxRecDepth 100000 in
set_option maxHeartbeats 2000000 in
theorem flush_tftf (a0 : Option Addr) (len cap : Nat) (ts : List Int) (ind : Bool) (d : Nat) (w : World) (hn : len ≤ 1024) (hts : ts.length = len) (hd : d ≤ 255) (hsrc : SrcB w (.slice a0 len cap) ts) :
    Calls Yba.prog 4 #[.slice a0 len cap, .bool true, .bool false, .bool true, .bool ind, .bool false, .int .u8 (d : Int)] w fun e w' => e = .returned (.bool true) ∧ Below w.heap.size w w' := by
  have hc0 : decide (1024 < (len : Int)) = false := by simp; omega
  have heq := eql28
  have hneq := neq28
  have hmk := makeFS
  obtain ⟨bn, HB⟩ : ∃ n, Hid (bigN + len = n) := ⟨_, rfl⟩
  obtain ⟨bl, HBL⟩ : ∃ l, Hid (zl ++ ts = l) := ⟨_, rfl⟩
  have hbn1 : 65536 ≤ bn := by have := HB.out; have := bigN_eq; omega
  have hbn2 : bn ≤ 66560 := by have := HB.out; have := bigN_eq; omega
  have HLen : Hid (bl.length = bn) := by have h1 := HB.out; have h2 := HBL.out; exact (by rw [← h2, List.length_append, zl_length, hts, h1] : bl.length = bn)
  have HTS : Hid _ := hts
  go_enter Yba.func4, Yba.ntmps4
  go_wp2_with (first | (at_builtin; refine wpList_append_bytes rfl (.tmp 30) (.tmp 31) rfl w.heap.size _ _ zl ts (own_blank w) (hsrc.kept (fun a u hu => cell_later ((Below.refl w.heap.size w).alloc (Nat.le_refl _) _) hu)) rfl rfl bn (by rw [zl_length, hts]; exact HB.out) (by omega) (by simp) ?_; intro a1 c1 w1 ho1 hg1 hl1; rw [HBL.out] at ho1; have hz1 := hg1.size) | (at_builtin; refine wpList_append_bytes rfl (.const (.slice none 0 0)) (.tmp 33) rfl w.heap.size _ (.slice a1 bn c1) [] bl (own_nil _ _) ho1.src rfl rfl bn (by simpa using HLen.out) (by omega) (by first | omega | (simp at hz1; omega)) ?_; intro a2 c2 w2 ho2 hg2 hl2; simp only [List.nil_append] at ho2; have hz2 := hg2.size) | (at_builtin; refine wpList_append_bytes rfl (.tmp 37) (.tmp 38) rfl w.heap.size (.slice a2 bn c2) _ bl [44] (ho2.alloc _) (src_one _ _) rfl rfl (bn + 1) (by have := HLen.out; simp; omega) (by omega) (by first | (simp; omega) | (simp at hz1 ⊢; omega)) ?_; intro a3 c3 w3 ho3 hg3 hl3; have hz3 := hg3.size) | (go_at_call 10; go_in) | fail)
  have hB1 : Below w.heap.size w w1 := ((Below.refl w.heap.size w).alloc (Nat.le_refl _) _).grown hg1 (by simp) (fun k e => by simp [Value.ownBlock] at e; omega)
  have hz1' : w.heap.size ≤ w1.heap.size := hB1.size
  have hlt1 : ∀ k, (Value.slice a1 bn c1).ownBlock = some k → k < w1.heap.size := fun k e => (ho1.lt e).2
  have hge2 : ∀ k, (Value.slice a2 bn c2).ownBlock = some k → w1.heap.size ≤ k := by
    intro k e
    rcases hl2 with q | q
    · rw [q] at e; cases e
    · rw [q] at e; simp at e; omega
  have hb2 : Below w1.heap.size w1 w2 := (Below.refl w1.heap.size w1).grown hg2 (Nat.le_refl _) (fun k e => by cases e)
  have hb3 : Below w1.heap.size w1 w3 := (hb2.alloc hz2 _).grown hg3 (by simp; omega) (fun k e => hge2 k e)
  have hgeB : ∀ k, (Value.slice a3 (bn + 1) c3).ownBlock = some k → w1.heap.size ≤ k := by
    intro k e
    rcases hl3 with q | q
    · exact hge2 k (q ▸ e)
    · rw [q] at e; simp at e; omega
  have hoB : Own w3 w.heap.size (.slice a3 (bn + 1) c3) (bl ++ commaOf false) := ho3
  have hob : Own w3 w.heap.size (.slice a1 bn c1) bl := ho1.below hb3 hlt1
  have hB3 : Below w.heap.size w w3 := hB1.trans (hb3.mono hz1')
  have hz13 := hb3.size
  clear ho1 ho2 hg1 hg2 hl1 hl2 hz1 hz2 hb2 hge2 hB1 ho3 hg3 hl3 hz3
  refine (member_go w.heap.size (w3.heap.size + 1 + 1 + 1) (w3.heap.size + 1 + 1) a1 bn c1 (.iface 71 (.pointer (some ⟨w3.heap.size + 1, 0, none⟩))) ind d false (.slice none 0 0) bl 0 _ HLen.out hbn1 (by omega) (by first | exact .inl rfl | exact .inr ⟨_, _, rfl⟩) ?qz hd (by omega) ?qB ?qj).mono ?_
  case qz => exact sink_laid w3 _ _ _ _ _
  case qB => have := hB3.size; simp; omega
  case qj => exact jw_laid hob _ _ _
  rintro e w5 ⟨rfl, buf', pad', hj5, hs5⟩
  have hmn : ∀ k, Mine (w3.heap.size + 1 + 1 + 1) (.slice a1 bn c1) (.slice none 0 0) k → k = (w3.heap.size + 1 + 1 + 1) ∨ (Value.slice a1 bn c1).ownBlock = some k := by
    intro k hm
    rcases hm with hm | hm | hm
    · exact .inl hm
    · exact .inr hm
    · cases hm
  have hsB : ∀ k, (Value.slice a3 (bn + 1) c3).ownBlock = some k → ¬ Mine (w3.heap.size + 1 + 1 + 1) (.slice a1 bn c1) (.slice none 0 0) k := by
    intro k e m
    have h1 := hgeB k e
    have h2 := (hoB.lt e).2
    rcases hmn k m with q | q
    · omega
    · have := hlt1 k q; omega
  have hsZ : ¬ Mine (w3.heap.size + 1 + 1 + 1) (.slice a1 bn c1) (.slice none 0 0) (w3.heap.size + 1 + 1) := by
    intro m
    rcases hmn _ m with q | q
    · omega
    · have := hlt1 _ q; omega
  have hB5 : Below w.heap.size w w5 := below_past hB3 hB3.size hs5.fr (fun k m => by
    have := hB3.size
    rcases m with q | m
    · omega
    · rcases hmn k m with q | q
      · omega
      · exact (hob.lt q).1)
  have hoB5 := own_past hoB hs5.fr (fun k e m => by
    rcases m with q | m
    · have := (hoB.lt e).2; omega
    · exact hsB k e m)
  obtain ⟨g, cg, ca, cn, cc, hZ5, hgc, hgo, hgl⟩ := hs5.out
  go_wp2_with fail
  refine (line_any ind d hd w5).mono ?_
  rintro e w6 ⟨vl, rfl, hol, hb6⟩
  have hj6 := hj5.kept (w1 := w6) (fun k hk _ => hb6.block k hk)
  obtain ⟨m0, m1, m2, m3, m4, m5, m6⟩ := hj6.cells
  have hZ6 := hZ5.kept (w1 := w6) (hb6.block _ hZ5.lt)
  obtain ⟨z0, z1⟩ := hZ6.cells
  have hoB6 := hoB5.below hb6 (fun k e => (hoB5.lt e).2)
  have hB6 : Below w.heap.size w w6 := hB5.trans (hb6.mono hB5.size)
  have hsl := hol.src
  have hll := lineOf_len ind d
  have hz6 := hB6.size
  have hbx := hj6.ob.src
  have hgc6 : w6.cell? ⟨g, 0, none⟩ = some (.slice ca cn cc) := by rw [hb6.cell (World.block_lt_of_cell? _ _ hgc)]; exact hgc
  have hgo6 := (hgo.below hb6 (fun k e => (hgo.lt e).2)).src
  have hlin : (lineOf ind d).length ≤ 1000000 := by omega
  have hbdy : (bl ++ commaOf false).length ≤ 1000000 := by have h2 := HLen.out; have h3 := commaOf_len false; rw [List.length_append]; omega
  have hos := hoB6.src
  clear hsB hsZ hmn hgeB hlt1 hs5 hj5 hj6 hb6 hol hZ5 hZ6 hoB5 hob hoB hB5 hb3 hz13 hz1' hoB6 hgc hgo hgl hsrc
  go_wp2_with fail
  refine (eq_any _ _ (bl ++ commaOf false) _ hbdy hgo6 hos).mono ?_
  rintro e w8 ⟨rfl, q8, rfl⟩
  go_wp2_with fail
  refine (eq_any _ _ (lineOf ind d) _ hlin ?r1 ?r2).mono ?_
  case r1 => exact hbx
  case r2 => exact hsl
  rintro e w9 ⟨rfl, q9, rfl⟩
  go_wp2
  go_ret
  exact ⟨rfl, hB6.os, hB6.tape, hB6.output, hB6.size, hB6.block⟩

set_option maxRecDepth 100000 in
set_option maxHeartbeats 2000000 in
theorem flush_tftt (a0 : Option Addr) (len cap : Nat) (ts : List Int) (ind : Bool) (d : Nat) (w : World) (hn : len ≤ 1024) (hts : ts.length = len) (hd : d ≤ 255) (hsrc : SrcB w (.slice a0 len cap) ts) :
    Calls Yba.prog 4 #[.slice a0 len cap, .bool true, .bool false, .bool true, .bool ind, .bool true, .int .u8 (d : Int)] w fun e w' => e = .returned (.bool true) ∧ Below w.heap.size w w' := by
  have hc0 : decide (1024 < (len : Int)) = false := by simp; omega
  have heq := eql28
  have hneq := neq28
  have hmk := makeFS
  obtain ⟨bn, HB⟩ : ∃ n, Hid (bigN + len = n) := ⟨_, rfl⟩
  obtain ⟨bl, HBL⟩ : ∃ l, Hid (zl ++ ts = l) := ⟨_, rfl⟩
  have hbn1 : 65536 ≤ bn := by have := HB.out; have := bigN_eq; omega
  have hbn2 : bn ≤ 66560 := by have := HB.out; have := bigN_eq; omega
  have HLen : Hid (bl.length = bn) := by have h1 := HB.out; have h2 := HBL.out; exact (by rw [← h2, List.length_append, zl_length, hts, h1] : bl.length = bn)
  have HTS : Hid _ := hts
  go_enter Yba.func4, Yba.ntmps4
  go_wp2_with (first | (at_builtin; refine wpList_append_bytes rfl (.tmp 30) (.tmp 31) rfl w.heap.size _ _ zl ts (own_blank w) (hsrc.kept (fun a u hu => cell_later ((Below.refl w.heap.size w).alloc (Nat.le_refl _) _) hu)) rfl rfl bn (by rw [zl_length, hts]; exact HB.out) (by omega) (by simp) ?_; intro a1 c1 w1 ho1 hg1 hl1; rw [HBL.out] at ho1; have hz1 := hg1.size) | (at_builtin; refine wpList_append_bytes rfl (.const (.slice none 0 0)) (.tmp 33) rfl w.heap.size _ (.slice a1 bn c1) [] bl (own_nil _ _) ho1.src rfl rfl bn (by simpa using HLen.out) (by omega) (by first | omega | (simp at hz1; omega)) ?_; intro a2 c2 w2 ho2 hg2 hl2; simp only [List.nil_append] at ho2; have hz2 := hg2.size) | (go_at_call 10; go_in) | fail)
  have hB1 : Below w.heap.size w w1 := ((Below.refl w.heap.size w).alloc (Nat.le_refl _) _).grown hg1 (by simp) (fun k e => by simp [Value.ownBlock] at e; omega)
  have hz1' : w.heap.size ≤ w1.heap.size := hB1.size
  have hlt1 : ∀ k, (Value.slice a1 bn c1).ownBlock = some k → k < w1.heap.size := fun k e => (ho1.lt e).2
  have hge2 : ∀ k, (Value.slice a2 bn c2).ownBlock = some k → w1.heap.size ≤ k := by
    intro k e
    rcases hl2 with q | q
    · rw [q] at e; cases e
    · rw [q] at e; simp at e; omega
  have hb2 : Below w1.heap.size w1 w2 := (Below.refl w1.heap.size w1).grown hg2 (Nat.le_refl _) (fun k e => by cases e)
  have hb3 := hb2
  have hgeB := hge2
  have hoB : Own w2 w.heap.size (.slice a2 bn c2) (bl ++ commaOf true) := by simpa [commaOf] using ho2
  have hob : Own w2 w.heap.size (.slice a1 bn c1) bl := ho1.below hb3 hlt1
  have hB3 : Below w.heap.size w w2 := hB1.trans (hb3.mono hz1')
  have hz13 := hb3.size
  clear ho1 ho2 hg1 hg2 hl1 hl2 hz1 hz2 hb2 hge2 hB1 
  refine (member_go w.heap.size (w2.heap.size + 1 + 1 + 1) (w2.heap.size + 1 + 1) a1 bn c1 (.iface 71 (.pointer (some ⟨w2.heap.size + 1, 0, none⟩))) ind d true (.slice none 0 0) bl 0 _ HLen.out hbn1 (by omega) (by first | exact .inl rfl | exact .inr ⟨_, _, rfl⟩) ?qz hd (by omega) ?qB ?qj).mono ?_
  case qz => exact sink_laid w2 _ _ _ _ _
  case qB => have := hB3.size; simp; omega
  case qj => exact jw_laid hob _ _ _
  rintro e w5 ⟨rfl, buf', pad', hj5, hs5⟩
  have hmn : ∀ k, Mine (w2.heap.size + 1 + 1 + 1) (.slice a1 bn c1) (.slice none 0 0) k → k = (w2.heap.size + 1 + 1 + 1) ∨ (Value.slice a1 bn c1).ownBlock = some k := by
    intro k hm
    rcases hm with hm | hm | hm
    · exact .inl hm
    · exact .inr hm
    · cases hm
  have hsB : ∀ k, (Value.slice a2 bn c2).ownBlock = some k → ¬ Mine (w2.heap.size + 1 + 1 + 1) (.slice a1 bn c1) (.slice none 0 0) k := by
    intro k e m
    have h1 := hgeB k e
    have h2 := (hoB.lt e).2
    rcases hmn k m with q | q
    · omega
    · have := hlt1 k q; omega
  have hsZ : ¬ Mine (w2.heap.size + 1 + 1 + 1) (.slice a1 bn c1) (.slice none 0 0) (w2.heap.size + 1 + 1) := by
    intro m
    rcases hmn _ m with q | q
    · omega
    · have := hlt1 _ q; omega
  have hB5 : Below w.heap.size w w5 := below_past hB3 hB3.size hs5.fr (fun k m => by
    have := hB3.size
    rcases m with q | m
    · omega
    · rcases hmn k m with q | q
      · omega
      · exact (hob.lt q).1)
  have hoB5 := own_past hoB hs5.fr (fun k e m => by
    rcases m with q | m
    · have := (hoB.lt e).2; omega
    · exact hsB k e m)
  obtain ⟨g, cg, ca, cn, cc, hZ5, hgc, hgo, hgl⟩ := hs5.out
  go_wp2_with fail
  refine (line_any ind d hd w5).mono ?_
  rintro e w6 ⟨vl, rfl, hol, hb6⟩
  have hj6 := hj5.kept (w1 := w6) (fun k hk _ => hb6.block k hk)
  obtain ⟨m0, m1, m2, m3, m4, m5, m6⟩ := hj6.cells
  have hZ6 := hZ5.kept (w1 := w6) (hb6.block _ hZ5.lt)
  obtain ⟨z0, z1⟩ := hZ6.cells
  have hoB6 := hoB5.below hb6 (fun k e => (hoB5.lt e).2)
  have hB6 : Below w.heap.size w w6 := hB5.trans (hb6.mono hB5.size)
  have hsl := hol.src
  have hll := lineOf_len ind d
  have hz6 := hB6.size
  have hbx := hj6.ob.src
  have hgc6 : w6.cell? ⟨g, 0, none⟩ = some (.slice ca cn cc) := by rw [hb6.cell (World.block_lt_of_cell? _ _ hgc)]; exact hgc
  have hgo6 := (hgo.below hb6 (fun k e => (hgo.lt e).2)).src
  have hlin : (lineOf ind d).length ≤ 1000000 := by omega
  have hbdy : (bl ++ commaOf true).length ≤ 1000000 := by have h2 := HLen.out; have h3 := commaOf_len true; rw [List.length_append]; omega
  have hos := hoB6.src
  clear hsB hsZ hmn hgeB hlt1 hs5 hj5 hj6 hb6 hol hZ5 hZ6 hoB5 hob hoB hB5 hb3 hz13 hz1' hoB6 hgc hgo hgl hsrc
  go_wp2_with fail
  refine (eq_any _ _ (bl ++ commaOf true) _ hbdy hgo6 hos).mono ?_
  rintro e w8 ⟨rfl, q8, rfl⟩
  go_wp2_with fail
  refine (eq_any _ _ (lineOf ind d) _ hlin ?r1 ?r2).mono ?_
  case r1 => exact hbx
  case r2 => exact hsl
  rintro e w9 ⟨rfl, q9, rfl⟩
  go_wp2
  go_ret
  exact ⟨rfl, hB6.os, hB6.tape, hB6.output, hB6.size, hB6.block⟩
end Go.Proofs.Ybulkpcm
