/-
  THE WALK OF LawS0779BFlush: not big, no error ahead.
-/
import Derived.Test.YbulkpcmFlushKit
namespace Go.Proofs.Ybulkpcm
open Go.RowKit Go.MapKept
set_option linter.unusedVariables false

set_option maxRecDepth 100000 in
set_option maxHeartbeats 2000000 in
theorem flush_ffff (a0 : Option Addr) (len cap : Nat) (ts : List Int) (ind : Bool) (d : Nat) (w : World) (hn : len ≤ 1024) (hts : ts.length = len) (hd : d ≤ 255) (hsrc : SrcB w (.slice a0 len cap) ts) :
    Calls Yba.prog 4 #[.slice a0 len cap, .bool false, .bool false, .bool false, .bool ind, .bool false, .int .u8 (d : Int)] w fun e w' => e = .returned (.bool true) ∧ Below w.heap.size w w' := by
  have hc0 : decide (1024 < (len : Int)) = false := by simp; omega
  have heq := eql28
  have hneq := neq28
  have HLen : Hid (ts.length = len) := hts
  have HTS : Hid _ := hts
  go_enter Yba.func4, Yba.ntmps4
  go_wp2_with (first | (at_builtin; refine wpList_append_bytes rfl (.tmp 30) (.tmp 31) rfl w.heap.size _ _ [] ts (own_nil w w.heap.size) hsrc rfl rfl len (by simpa using hts) (by omega) (Nat.le_refl _) ?_; intro a1 c1 w1 ho1 hg1 hl1; simp only [List.nil_append] at ho1; have hz1 := hg1.size) | (at_builtin; refine wpList_append_bytes rfl (.const (.slice none 0 0)) (.tmp 33) rfl w.heap.size _ (.slice a1 len c1) [] ts (own_nil _ _) ho1.src rfl rfl len (by simpa using HLen.out) (by omega) (by first | omega | (simp at hz1; omega)) ?_; intro a2 c2 w2 ho2 hg2 hl2; simp only [List.nil_append] at ho2; have hz2 := hg2.size) | (at_builtin; refine wpList_append_bytes rfl (.tmp 37) (.tmp 38) rfl w.heap.size (.slice a2 len c2) _ ts [44] (ho2.alloc _) (src_one _ _) rfl rfl (len + 1) (by have := HLen.out; simp; omega) (by omega) (by first | (simp; omega) | (simp at hz1 ⊢; omega)) ?_; intro a3 c3 w3 ho3 hg3 hl3; have hz3 := hg3.size) | (go_at_call 10; go_in) | fail)
  have hB1 : Below w.heap.size w w1 := (Below.refl w.heap.size w).grown hg1 (Nat.le_refl _) (fun k e => by cases e)
  have hz1' : w.heap.size ≤ w1.heap.size := hB1.size
  have hlt1 : ∀ k, (Value.slice a1 len c1).ownBlock = some k → k < w1.heap.size := fun k e => (ho1.lt e).2
  have hge2 : ∀ k, (Value.slice a2 len c2).ownBlock = some k → w1.heap.size ≤ k := by
    intro k e
    rcases hl2 with q | q
    · rw [q] at e; cases e
    · rw [q] at e; simp at e; omega
  have hb2 : Below w1.heap.size w1 w2 := (Below.refl w1.heap.size w1).grown hg2 (Nat.le_refl _) (fun k e => by cases e)
  have hb3 : Below w1.heap.size w1 w3 := (hb2.alloc hz2 _).grown hg3 (by simp; omega) (fun k e => hge2 k e)
  have hgeB : ∀ k, (Value.slice a3 (len + 1) c3).ownBlock = some k → w1.heap.size ≤ k := by
    intro k e
    rcases hl3 with q | q
    · exact hge2 k (q ▸ e)
    · rw [q] at e; simp at e; omega
  have hoB : Own w3 w.heap.size (.slice a3 (len + 1) c3) (ts ++ commaOf false) := ho3
  have hob : Own w3 w.heap.size (.slice a1 len c1) ts := ho1.below hb3 hlt1
  have hB3 : Below w.heap.size w w3 := hB1.trans (hb3.mono hz1')
  have hz13 := hb3.size
  clear ho1 ho2 hg1 hg2 hl1 hl2 hz1 hz2 hb2 hge2 hB1 ho3 hg3 hl3 hz3
  refine (member_small w.heap.size (w3.heap.size + 1 + 1 + 1) (w3.heap.size + 1 + 1) a1 len c1 .nilIface ind d false (.slice none 0 0) ts 0 _ HLen.out (by omega) hd (by omega) ?qB ?qj).mono ?_
  case qB => have := hB3.size; simp; omega
  case qj => exact jw_laid hob _ _ _
  rintro e w5 ⟨rfl, buf', pad', hj5, hs5⟩
  have hmn : ∀ k, Mine (w3.heap.size + 1 + 1 + 1) (.slice a1 len c1) (.slice none 0 0) k → k = (w3.heap.size + 1 + 1 + 1) ∨ (Value.slice a1 len c1).ownBlock = some k := by
    intro k hm
    rcases hm with hm | hm | hm
    · exact .inl hm
    · exact .inr hm
    · cases hm
  have hsB : ∀ k, (Value.slice a3 (len + 1) c3).ownBlock = some k → ¬ Mine (w3.heap.size + 1 + 1 + 1) (.slice a1 len c1) (.slice none 0 0) k := by
    intro k e m
    have h1 := hgeB k e
    have h2 := (hoB.lt e).2
    rcases hmn k m with q | q
    · omega
    · have := hlt1 k q; omega
  have hsZ : ¬ Mine (w3.heap.size + 1 + 1 + 1) (.slice a1 len c1) (.slice none 0 0) (w3.heap.size + 1 + 1) := by
    intro m
    rcases hmn _ m with q | q
    · omega
    · have := hlt1 _ q; omega
  have hB5 : Below w.heap.size w w5 := below_past hB3 hB3.size hs5.fr (fun k m => by
    have := hB3.size
    rcases hmn k m with q | q
    · omega
    · exact (hob.lt q).1)
  have hoB5 := own_past hoB hs5.fr hsB
  have hZ5 := sink_past hs5.fr hsZ
  go_wp2_with fail
  refine (line_any ind d hd w5).mono ?_
  rintro e w6 ⟨vl, rfl, hol, hb6⟩
  have hj6 := hj5.kept (w1 := w6) (fun k hk _ => hb6.block k hk)
  obtain ⟨m0, m1, m2, m3, m4, m5, m6⟩ := hj6.cells
  have hZ6 := hZ5.kept (w1 := w6) (hb6.block _ hZ5.lt)
  obtain ⟨z0, z1⟩ := hZ6.cells
  have hoB6 := hoB5.below hb6 (fun k e => (hoB5.lt e).2)
  have hB6 : Below w.heap.size w w6 := hB5.trans (hb6.mono hB5.size)
  have hsl := hol.src
  have hll := lineOf_len ind d
  have hz6 := hB6.size
  have hbx := hj6.ob.src
  obtain ⟨nW, HW⟩ : ∃ n, Hid ((ts ++ commaOf false).length + (lineOf ind d).length = n) := ⟨_, rfl⟩
  have hnW : nW ≤ 3000 := by have h1 := HW.out; have h2 := HLen.out; have h3 := commaOf_len false; rw [List.length_append] at h1; omega
  have hne6 : ∀ k, (Value.slice a3 (len + 1) c3).ownBlock = some k → ¬ Mine (w3.heap.size + 1 + 1 + 1) buf' pad' k := by
    intro k e m
    have h2 := (hoB.lt e).2
    rcases m with q | q | q
    · omega
    · rcases hs5.lb k q with c | c
      · exact hsB k e (.inr (.inl c))
      · simp at c; omega
    · rcases hs5.lp k q with c | c
      · cases c
      · simp at c; omega
  have hzne : ∀ k, (Value.slice a3 (len + 1) c3).ownBlock = some k → k ≠ (w3.heap.size + 1 + 1) := fun k e c => by have := (hoB.lt e).2; omega
  have HNE : Hid _ := hne6
  have HZN : Hid _ := hzne
  have HJ6 : Hid _ := hj6
  have HZ6 : Hid (Sink w6 (w3.heap.size + 1 + 1) (.slice none 0 0) .nilIface) := hZ6
  clear hne6 hzne hsB hsZ hmn hgeB hlt1 hs5 hj5 hj6 hb6 hol hZ5 hZ6 hoB5 hob hoB hB5 hb3 hz13 hz1' m0 m1 m2 m3 m4 m5 m6 z0 z1 hbx hsrc
  obtain ⟨m0, m1, m2, m3, m4, m5, m6⟩ := HJ6.out.cells
  go_wp2_with (at_builtin; refine wpList_append_bytes rfl (.tmp 83) (.tmp 84) rfl w.heap.size (.slice a3 (len + 1) c3) vl (ts ++ commaOf false) (lineOf ind d) hoB6 hsl rfl rfl nW HW.out (by omega) hz6 ?_; intro a7 c7 w7 ho7 hg7 hl7; have hj7 := HJ6.out.kept (w1 := w7) (fun k hk m => hg7.block k hk (fun e => HNE.out k e.symm m)); have hZ7 : Sink w7 (w3.heap.size + 1 + 1) (.slice none 0 0) .nilIface := hz7 HZ6.out hg7 HZN.out; obtain ⟨n0, n1, n2, n3, n4, n5, n6⟩ := hj7.cells; obtain ⟨y0, y1⟩ := hZ7.cells)
  refine (eq_any _ _ (ts ++ commaOf false ++ lineOf ind d) _ ?q1 ?q2 ?q3).mono ?_
  case q1 => have := HW.out; rw [List.length_append]; omega
  case q2 => exact hj7.ob.src
  case q3 => exact ho7.src
  rintro e w8 ⟨rfl, q8, rfl⟩
  have hB7 : Below w.heap.size w w7 := hB6.grown hg7 hz6 (fun k e => (hoB6.lt e).1)
  go_wp2
  go_ret
  exact ⟨rfl, hB7.os, hB7.tape, hB7.output, hB7.size, hB7.block⟩

set_option maxRecDepth 100000 in
set_option maxHeartbeats 2000000 in
theorem flush_ffft (a0 : Option Addr) (len cap : Nat) (ts : List Int) (ind : Bool) (d : Nat) (w : World) (hn : len ≤ 1024) (hts : ts.length = len) (hd : d ≤ 255) (hsrc : SrcB w (.slice a0 len cap) ts) :
    Calls Yba.prog 4 #[.slice a0 len cap, .bool false, .bool false, .bool false, .bool ind, .bool true, .int .u8 (d : Int)] w fun e w' => e = .returned (.bool true) ∧ Below w.heap.size w w' := by
  have hc0 : decide (1024 < (len : Int)) = false := by simp; omega
  have heq := eql28
  have hneq := neq28
  have HLen : Hid (ts.length = len) := hts
  have HTS : Hid _ := hts
  go_enter Yba.func4, Yba.ntmps4
  go_wp2_with (first | (at_builtin; refine wpList_append_bytes rfl (.tmp 30) (.tmp 31) rfl w.heap.size _ _ [] ts (own_nil w w.heap.size) hsrc rfl rfl len (by simpa using hts) (by omega) (Nat.le_refl _) ?_; intro a1 c1 w1 ho1 hg1 hl1; simp only [List.nil_append] at ho1; have hz1 := hg1.size) | (at_builtin; refine wpList_append_bytes rfl (.const (.slice none 0 0)) (.tmp 33) rfl w.heap.size _ (.slice a1 len c1) [] ts (own_nil _ _) ho1.src rfl rfl len (by simpa using HLen.out) (by omega) (by first | omega | (simp at hz1; omega)) ?_; intro a2 c2 w2 ho2 hg2 hl2; simp only [List.nil_append] at ho2; have hz2 := hg2.size) | (go_at_call 10; go_in) | fail)
  have hB1 : Below w.heap.size w w1 := (Below.refl w.heap.size w).grown hg1 (Nat.le_refl _) (fun k e => by cases e)
  have hz1' : w.heap.size ≤ w1.heap.size := hB1.size
  have hlt1 : ∀ k, (Value.slice a1 len c1).ownBlock = some k → k < w1.heap.size := fun k e => (ho1.lt e).2
  have hge2 : ∀ k, (Value.slice a2 len c2).ownBlock = some k → w1.heap.size ≤ k := by
    intro k e
    rcases hl2 with q | q
    · rw [q] at e; cases e
    · rw [q] at e; simp at e; omega
  have hb2 : Below w1.heap.size w1 w2 := (Below.refl w1.heap.size w1).grown hg2 (Nat.le_refl _) (fun k e => by cases e)
  have hb3 := hb2
  have hgeB := hge2
  have hoB : Own w2 w.heap.size (.slice a2 len c2) (ts ++ commaOf true) := by simpa [commaOf] using ho2
  have hob : Own w2 w.heap.size (.slice a1 len c1) ts := ho1.below hb3 hlt1
  have hB3 : Below w.heap.size w w2 := hB1.trans (hb3.mono hz1')
  have hz13 := hb3.size
  clear ho1 ho2 hg1 hg2 hl1 hl2 hz1 hz2 hb2 hge2 hB1 
  refine (member_small w.heap.size (w2.heap.size + 1 + 1 + 1) (w2.heap.size + 1 + 1) a1 len c1 .nilIface ind d true (.slice none 0 0) ts 0 _ HLen.out (by omega) hd (by omega) ?qB ?qj).mono ?_
  case qB => have := hB3.size; simp; omega
  case qj => exact jw_laid hob _ _ _
  rintro e w5 ⟨rfl, buf', pad', hj5, hs5⟩
  have hmn : ∀ k, Mine (w2.heap.size + 1 + 1 + 1) (.slice a1 len c1) (.slice none 0 0) k → k = (w2.heap.size + 1 + 1 + 1) ∨ (Value.slice a1 len c1).ownBlock = some k := by
    intro k hm
    rcases hm with hm | hm | hm
    · exact .inl hm
    · exact .inr hm
    · cases hm
  have hsB : ∀ k, (Value.slice a2 len c2).ownBlock = some k → ¬ Mine (w2.heap.size + 1 + 1 + 1) (.slice a1 len c1) (.slice none 0 0) k := by
    intro k e m
    have h1 := hgeB k e
    have h2 := (hoB.lt e).2
    rcases hmn k m with q | q
    · omega
    · have := hlt1 k q; omega
  have hsZ : ¬ Mine (w2.heap.size + 1 + 1 + 1) (.slice a1 len c1) (.slice none 0 0) (w2.heap.size + 1 + 1) := by
    intro m
    rcases hmn _ m with q | q
    · omega
    · have := hlt1 _ q; omega
  have hB5 : Below w.heap.size w w5 := below_past hB3 hB3.size hs5.fr (fun k m => by
    have := hB3.size
    rcases hmn k m with q | q
    · omega
    · exact (hob.lt q).1)
  have hoB5 := own_past hoB hs5.fr hsB
  have hZ5 := sink_past hs5.fr hsZ
  go_wp2_with fail
  refine (line_any ind d hd w5).mono ?_
  rintro e w6 ⟨vl, rfl, hol, hb6⟩
  have hj6 := hj5.kept (w1 := w6) (fun k hk _ => hb6.block k hk)
  obtain ⟨m0, m1, m2, m3, m4, m5, m6⟩ := hj6.cells
  have hZ6 := hZ5.kept (w1 := w6) (hb6.block _ hZ5.lt)
  obtain ⟨z0, z1⟩ := hZ6.cells
  have hoB6 := hoB5.below hb6 (fun k e => (hoB5.lt e).2)
  have hB6 : Below w.heap.size w w6 := hB5.trans (hb6.mono hB5.size)
  have hsl := hol.src
  have hll := lineOf_len ind d
  have hz6 := hB6.size
  have hbx := hj6.ob.src
  obtain ⟨nW, HW⟩ : ∃ n, Hid ((ts ++ commaOf true).length + (lineOf ind d).length = n) := ⟨_, rfl⟩
  have hnW : nW ≤ 3000 := by have h1 := HW.out; have h2 := HLen.out; have h3 := commaOf_len true; rw [List.length_append] at h1; omega
  have hne6 : ∀ k, (Value.slice a2 len c2).ownBlock = some k → ¬ Mine (w2.heap.size + 1 + 1 + 1) buf' pad' k := by
    intro k e m
    have h2 := (hoB.lt e).2
    rcases m with q | q | q
    · omega
    · rcases hs5.lb k q with c | c
      · exact hsB k e (.inr (.inl c))
      · simp at c; omega
    · rcases hs5.lp k q with c | c
      · cases c
      · simp at c; omega
  have hzne : ∀ k, (Value.slice a2 len c2).ownBlock = some k → k ≠ (w2.heap.size + 1 + 1) := fun k e c => by have := (hoB.lt e).2; omega
  have HNE : Hid _ := hne6
  have HZN : Hid _ := hzne
  have HJ6 : Hid _ := hj6
  have HZ6 : Hid (Sink w6 (w2.heap.size + 1 + 1) (.slice none 0 0) .nilIface) := hZ6
  clear hne6 hzne hsB hsZ hmn hgeB hlt1 hs5 hj5 hj6 hb6 hol hZ5 hZ6 hoB5 hob hoB hB5 hb3 hz13 hz1' m0 m1 m2 m3 m4 m5 m6 z0 z1 hbx hsrc
  obtain ⟨m0, m1, m2, m3, m4, m5, m6⟩ := HJ6.out.cells
  go_wp2_with (at_builtin; refine wpList_append_bytes rfl (.tmp 83) (.tmp 84) rfl w.heap.size (.slice a2 len c2) vl (ts ++ commaOf true) (lineOf ind d) hoB6 hsl rfl rfl nW HW.out (by omega) hz6 ?_; intro a7 c7 w7 ho7 hg7 hl7; have hj7 := HJ6.out.kept (w1 := w7) (fun k hk m => hg7.block k hk (fun e => HNE.out k e.symm m)); have hZ7 : Sink w7 (w2.heap.size + 1 + 1) (.slice none 0 0) .nilIface := hz7 HZ6.out hg7 HZN.out; obtain ⟨n0, n1, n2, n3, n4, n5, n6⟩ := hj7.cells; obtain ⟨y0, y1⟩ := hZ7.cells)
  refine (eq_any _ _ (ts ++ commaOf true ++ lineOf ind d) _ ?q1 ?q2 ?q3).mono ?_
  case q1 => have := HW.out; rw [List.length_append]; omega
  case q2 => exact hj7.ob.src
  case q3 => exact ho7.src
  rintro e w8 ⟨rfl, q8, rfl⟩
  have hB7 : Below w.heap.size w w7 := hB6.grown hg7 hz6 (fun k e => (hoB6.lt e).1)
  go_wp2
  go_ret
  exact ⟨rfl, hB7.os, hB7.tape, hB7.output, hB7.size, hB7.block⟩

set_option maxRecDepth 100000 in
set_option maxHeartbeats 2000000 in
theorem flush_fftf (a0 : Option Addr) (len cap : Nat) (ts : List Int) (ind : Bool) (d : Nat) (w : World) (hn : len ≤ 1024) (hts : ts.length = len) (hd : d ≤ 255) (hsrc : SrcB w (.slice a0 len cap) ts) :
    Calls Yba.prog 4 #[.slice a0 len cap, .bool false, .bool false, .bool true, .bool ind, .bool false, .int .u8 (d : Int)] w fun e w' => e = .returned (.bool true) ∧ Below w.heap.size w w' := by
  have hc0 : decide (1024 < (len : Int)) = false := by simp; omega
  have heq := eql28
  have hneq := neq28
  have HLen : Hid (ts.length = len) := hts
  have HTS : Hid _ := hts
  go_enter Yba.func4, Yba.ntmps4
  go_wp2_with (first | (at_builtin; refine wpList_append_bytes rfl (.tmp 30) (.tmp 31) rfl w.heap.size _ _ [] ts (own_nil w w.heap.size) hsrc rfl rfl len (by simpa using hts) (by omega) (Nat.le_refl _) ?_; intro a1 c1 w1 ho1 hg1 hl1; simp only [List.nil_append] at ho1; have hz1 := hg1.size) | (at_builtin; refine wpList_append_bytes rfl (.const (.slice none 0 0)) (.tmp 33) rfl w.heap.size _ (.slice a1 len c1) [] ts (own_nil _ _) ho1.src rfl rfl len (by simpa using HLen.out) (by omega) (by first | omega | (simp at hz1; omega)) ?_; intro a2 c2 w2 ho2 hg2 hl2; simp only [List.nil_append] at ho2; have hz2 := hg2.size) | (at_builtin; refine wpList_append_bytes rfl (.tmp 37) (.tmp 38) rfl w.heap.size (.slice a2 len c2) _ ts [44] (ho2.alloc _) (src_one _ _) rfl rfl (len + 1) (by have := HLen.out; simp; omega) (by omega) (by first | (simp; omega) | (simp at hz1 ⊢; omega)) ?_; intro a3 c3 w3 ho3 hg3 hl3; have hz3 := hg3.size) | (go_at_call 10; go_in) | fail)
  have hB1 : Below w.heap.size w w1 := (Below.refl w.heap.size w).grown hg1 (Nat.le_refl _) (fun k e => by cases e)
  have hz1' : w.heap.size ≤ w1.heap.size := hB1.size
  have hlt1 : ∀ k, (Value.slice a1 len c1).ownBlock = some k → k < w1.heap.size := fun k e => (ho1.lt e).2
  have hge2 : ∀ k, (Value.slice a2 len c2).ownBlock = some k → w1.heap.size ≤ k := by
    intro k e
    rcases hl2 with q | q
    · rw [q] at e; cases e
    · rw [q] at e; simp at e; omega
  have hb2 : Below w1.heap.size w1 w2 := (Below.refl w1.heap.size w1).grown hg2 (Nat.le_refl _) (fun k e => by cases e)
  have hb3 : Below w1.heap.size w1 w3 := (hb2.alloc hz2 _).grown hg3 (by simp; omega) (fun k e => hge2 k e)
  have hgeB : ∀ k, (Value.slice a3 (len + 1) c3).ownBlock = some k → w1.heap.size ≤ k := by
    intro k e
    rcases hl3 with q | q
    · exact hge2 k (q ▸ e)
    · rw [q] at e; simp at e; omega
  have hoB : Own w3 w.heap.size (.slice a3 (len + 1) c3) (ts ++ commaOf false) := ho3
  have hob : Own w3 w.heap.size (.slice a1 len c1) ts := ho1.below hb3 hlt1
  have hB3 : Below w.heap.size w w3 := hB1.trans (hb3.mono hz1')
  have hz13 := hb3.size
  clear ho1 ho2 hg1 hg2 hl1 hl2 hz1 hz2 hb2 hge2 hB1 ho3 hg3 hl3 hz3
  refine (member_small w.heap.size (w3.heap.size + 1 + 1 + 1) (w3.heap.size + 1 + 1) a1 len c1 .nilIface ind d false (.slice none 0 0) ts 0 _ HLen.out (by omega) hd (by omega) ?qB ?qj).mono ?_
  case qB => have := hB3.size; simp; omega
  case qj => exact jw_laid hob _ _ _
  rintro e w5 ⟨rfl, buf', pad', hj5, hs5⟩
  have hmn : ∀ k, Mine (w3.heap.size + 1 + 1 + 1) (.slice a1 len c1) (.slice none 0 0) k → k = (w3.heap.size + 1 + 1 + 1) ∨ (Value.slice a1 len c1).ownBlock = some k := by
    intro k hm
    rcases hm with hm | hm | hm
    · exact .inl hm
    · exact .inr hm
    · cases hm
  have hsB : ∀ k, (Value.slice a3 (len + 1) c3).ownBlock = some k → ¬ Mine (w3.heap.size + 1 + 1 + 1) (.slice a1 len c1) (.slice none 0 0) k := by
    intro k e m
    have h1 := hgeB k e
    have h2 := (hoB.lt e).2
    rcases hmn k m with q | q
    · omega
    · have := hlt1 k q; omega
  have hsZ : ¬ Mine (w3.heap.size + 1 + 1 + 1) (.slice a1 len c1) (.slice none 0 0) (w3.heap.size + 1 + 1) := by
    intro m
    rcases hmn _ m with q | q
    · omega
    · have := hlt1 _ q; omega
  have hB5 : Below w.heap.size w w5 := below_past hB3 hB3.size hs5.fr (fun k m => by
    have := hB3.size
    rcases hmn k m with q | q
    · omega
    · exact (hob.lt q).1)
  have hoB5 := own_past hoB hs5.fr hsB
  have hZ5 := sink_past hs5.fr hsZ
  go_wp2_with fail
  refine (line_any ind d hd w5).mono ?_
  rintro e w6 ⟨vl, rfl, hol, hb6⟩
  have hj6 := hj5.kept (w1 := w6) (fun k hk _ => hb6.block k hk)
  obtain ⟨m0, m1, m2, m3, m4, m5, m6⟩ := hj6.cells
  have hZ6 := hZ5.kept (w1 := w6) (hb6.block _ hZ5.lt)
  obtain ⟨z0, z1⟩ := hZ6.cells
  have hoB6 := hoB5.below hb6 (fun k e => (hoB5.lt e).2)
  have hB6 : Below w.heap.size w w6 := hB5.trans (hb6.mono hB5.size)
  have hsl := hol.src
  have hll := lineOf_len ind d
  have hz6 := hB6.size
  have hbx := hj6.ob.src
  obtain ⟨nW, HW⟩ : ∃ n, Hid ((ts ++ commaOf false).length + (lineOf ind d).length = n) := ⟨_, rfl⟩
  have hnW : nW ≤ 3000 := by have h1 := HW.out; have h2 := HLen.out; have h3 := commaOf_len false; rw [List.length_append] at h1; omega
  have hne6 : ∀ k, (Value.slice a3 (len + 1) c3).ownBlock = some k → ¬ Mine (w3.heap.size + 1 + 1 + 1) buf' pad' k := by
    intro k e m
    have h2 := (hoB.lt e).2
    rcases m with q | q | q
    · omega
    · rcases hs5.lb k q with c | c
      · exact hsB k e (.inr (.inl c))
      · simp at c; omega
    · rcases hs5.lp k q with c | c
      · cases c
      · simp at c; omega
  have hzne : ∀ k, (Value.slice a3 (len + 1) c3).ownBlock = some k → k ≠ (w3.heap.size + 1 + 1) := fun k e c => by have := (hoB.lt e).2; omega
  have HNE : Hid _ := hne6
  have HZN : Hid _ := hzne
  have HJ6 : Hid _ := hj6
  have HZ6 : Hid (Sink w6 (w3.heap.size + 1 + 1) (.slice none 0 0) (.iface 71 (.pointer (some ⟨w3.heap.size + 1, 0, none⟩)))) := hZ6
  clear hne6 hzne hsB hsZ hmn hgeB hlt1 hs5 hj5 hj6 hb6 hol hZ5 hZ6 hoB5 hob hoB hB5 hb3 hz13 hz1' m0 m1 m2 m3 m4 m5 m6 z0 z1 hbx hsrc
  obtain ⟨m0, m1, m2, m3, m4, m5, m6⟩ := HJ6.out.cells
  go_wp2_with (at_builtin; refine wpList_append_bytes rfl (.tmp 83) (.tmp 84) rfl w.heap.size (.slice a3 (len + 1) c3) vl (ts ++ commaOf false) (lineOf ind d) hoB6 hsl rfl rfl nW HW.out (by omega) hz6 ?_; intro a7 c7 w7 ho7 hg7 hl7; have hj7 := HJ6.out.kept (w1 := w7) (fun k hk m => hg7.block k hk (fun e => HNE.out k e.symm m)); have hZ7 : Sink w7 (w3.heap.size + 1 + 1) (.slice none 0 0) (.iface 71 (.pointer (some ⟨w3.heap.size + 1, 0, none⟩))) := hz7 HZ6.out hg7 HZN.out; obtain ⟨n0, n1, n2, n3, n4, n5, n6⟩ := hj7.cells; obtain ⟨y0, y1⟩ := hZ7.cells)
  refine (eq_any _ _ (ts ++ commaOf false ++ lineOf ind d) _ ?q1 ?q2 ?q3).mono ?_
  case q1 => have := HW.out; rw [List.length_append]; omega
  case q2 => exact hj7.ob.src
  case q3 => exact ho7.src
  rintro e w8 ⟨rfl, q8, rfl⟩
  have hB7 : Below w.heap.size w w7 := hB6.grown hg7 hz6 (fun k e => (hoB6.lt e).1)
  go_wp2
  go_ret
  exact ⟨rfl, hB7.os, hB7.tape, hB7.output, hB7.size, hB7.block⟩

set_option maxRecDepth 100000 in
set_option maxHeartbeats 2000000 in
theorem flush_fftt (a0 : Option Addr) (len cap : Nat) (ts : List Int) (ind : Bool) (d : Nat) (w : World) (hn : len ≤ 1024) (hts : ts.length = len) (hd : d ≤ 255) (hsrc : SrcB w (.slice a0 len cap) ts) :
    Calls Yba.prog 4 #[.slice a0 len cap, .bool false, .bool false, .bool true, .bool ind, .bool true, .int .u8 (d : Int)] w fun e w' => e = .returned (.bool true) ∧ Below w.heap.size w w' := by
  have hc0 : decide (1024 < (len : Int)) = false := by simp; omega
  have heq := eql28
  have hneq := neq28
  have HLen : Hid (ts.length = len) := hts
  have HTS : Hid _ := hts
  go_enter Yba.func4, Yba.ntmps4
  go_wp2_with (first | (at_builtin; refine wpList_append_bytes rfl (.tmp 30) (.tmp 31) rfl w.heap.size _ _ [] ts (own_nil w w.heap.size) hsrc rfl rfl len (by simpa using hts) (by omega) (Nat.le_refl _) ?_; intro a1 c1 w1 ho1 hg1 hl1; simp only [List.nil_append] at ho1; have hz1 := hg1.size) | (at_builtin; refine wpList_append_bytes rfl (.const (.slice none 0 0)) (.tmp 33) rfl w.heap.size _ (.slice a1 len c1) [] ts (own_nil _ _) ho1.src rfl rfl len (by simpa using HLen.out) (by omega) (by first | omega | (simp at hz1; omega)) ?_; intro a2 c2 w2 ho2 hg2 hl2; simp only [List.nil_append] at ho2; have hz2 := hg2.size) | (go_at_call 10; go_in) | fail)
  have hB1 : Below w.heap.size w w1 := (Below.refl w.heap.size w).grown hg1 (Nat.le_refl _) (fun k e => by cases e)
  have hz1' : w.heap.size ≤ w1.heap.size := hB1.size
  have hlt1 : ∀ k, (Value.slice a1 len c1).ownBlock = some k → k < w1.heap.size := fun k e => (ho1.lt e).2
  have hge2 : ∀ k, (Value.slice a2 len c2).ownBlock = some k → w1.heap.size ≤ k := by
    intro k e
    rcases hl2 with q | q
    · rw [q] at e; cases e
    · rw [q] at e; simp at e; omega
  have hb2 : Below w1.heap.size w1 w2 := (Below.refl w1.heap.size w1).grown hg2 (Nat.le_refl _) (fun k e => by cases e)
  have hb3 := hb2
  have hgeB := hge2
  have hoB : Own w2 w.heap.size (.slice a2 len c2) (ts ++ commaOf true) := by simpa [commaOf] using ho2
  have hob : Own w2 w.heap.size (.slice a1 len c1) ts := ho1.below hb3 hlt1
  have hB3 : Below w.heap.size w w2 := hB1.trans (hb3.mono hz1')
  have hz13 := hb3.size
  clear ho1 ho2 hg1 hg2 hl1 hl2 hz1 hz2 hb2 hge2 hB1 
  refine (member_small w.heap.size (w2.heap.size + 1 + 1 + 1) (w2.heap.size + 1 + 1) a1 len c1 .nilIface ind d true (.slice none 0 0) ts 0 _ HLen.out (by omega) hd (by omega) ?qB ?qj).mono ?_
  case qB => have := hB3.size; simp; omega
  case qj => exact jw_laid hob _ _ _
  rintro e w5 ⟨rfl, buf', pad', hj5, hs5⟩
  have hmn : ∀ k, Mine (w2.heap.size + 1 + 1 + 1) (.slice a1 len c1) (.slice none 0 0) k → k = (w2.heap.size + 1 + 1 + 1) ∨ (Value.slice a1 len c1).ownBlock = some k := by
    intro k hm
    rcases hm with hm | hm | hm
    · exact .inl hm
    · exact .inr hm
    · cases hm
  have hsB : ∀ k, (Value.slice a2 len c2).ownBlock = some k → ¬ Mine (w2.heap.size + 1 + 1 + 1) (.slice a1 len c1) (.slice none 0 0) k := by
    intro k e m
    have h1 := hgeB k e
    have h2 := (hoB.lt e).2
    rcases hmn k m with q | q
    · omega
    · have := hlt1 k q; omega
  have hsZ : ¬ Mine (w2.heap.size + 1 + 1 + 1) (.slice a1 len c1) (.slice none 0 0) (w2.heap.size + 1 + 1) := by
    intro m
    rcases hmn _ m with q | q
    · omega
    · have := hlt1 _ q; omega
  have hB5 : Below w.heap.size w w5 := below_past hB3 hB3.size hs5.fr (fun k m => by
    have := hB3.size
    rcases hmn k m with q | q
    · omega
    · exact (hob.lt q).1)
  have hoB5 := own_past hoB hs5.fr hsB
  have hZ5 := sink_past hs5.fr hsZ
  go_wp2_with fail
  refine (line_any ind d hd w5).mono ?_
  rintro e w6 ⟨vl, rfl, hol, hb6⟩
  have hj6 := hj5.kept (w1 := w6) (fun k hk _ => hb6.block k hk)
  obtain ⟨m0, m1, m2, m3, m4, m5, m6⟩ := hj6.cells
  have hZ6 := hZ5.kept (w1 := w6) (hb6.block _ hZ5.lt)
  obtain ⟨z0, z1⟩ := hZ6.cells
  have hoB6 := hoB5.below hb6 (fun k e => (hoB5.lt e).2)
  have hB6 : Below w.heap.size w w6 := hB5.trans (hb6.mono hB5.size)
  have hsl := hol.src
  have hll := lineOf_len ind d
  have hz6 := hB6.size
  have hbx := hj6.ob.src
  obtain ⟨nW, HW⟩ : ∃ n, Hid ((ts ++ commaOf true).length + (lineOf ind d).length = n) := ⟨_, rfl⟩
  have hnW : nW ≤ 3000 := by have h1 := HW.out; have h2 := HLen.out; have h3 := commaOf_len true; rw [List.length_append] at h1; omega
  have hne6 : ∀ k, (Value.slice a2 len c2).ownBlock = some k → ¬ Mine (w2.heap.size + 1 + 1 + 1) buf' pad' k := by
    intro k e m
    have h2 := (hoB.lt e).2
    rcases m with q | q | q
    · omega
    · rcases hs5.lb k q with c | c
      · exact hsB k e (.inr (.inl c))
      · simp at c; omega
    · rcases hs5.lp k q with c | c
      · cases c
      · simp at c; omega
  have hzne : ∀ k, (Value.slice a2 len c2).ownBlock = some k → k ≠ (w2.heap.size + 1 + 1) := fun k e c => by have := (hoB.lt e).2; omega
  have HNE : Hid _ := hne6
  have HZN : Hid _ := hzne
  have HJ6 : Hid _ := hj6
  have HZ6 : Hid (Sink w6 (w2.heap.size + 1 + 1) (.slice none 0 0) (.iface 71 (.pointer (some ⟨w2.heap.size + 1, 0, none⟩)))) := hZ6
  clear hne6 hzne hsB hsZ hmn hgeB hlt1 hs5 hj5 hj6 hb6 hol hZ5 hZ6 hoB5 hob hoB hB5 hb3 hz13 hz1' m0 m1 m2 m3 m4 m5 m6 z0 z1 hbx hsrc
  obtain ⟨m0, m1, m2, m3, m4, m5, m6⟩ := HJ6.out.cells
  go_wp2_with (at_builtin; refine wpList_append_bytes rfl (.tmp 83) (.tmp 84) rfl w.heap.size (.slice a2 len c2) vl (ts ++ commaOf true) (lineOf ind d) hoB6 hsl rfl rfl nW HW.out (by omega) hz6 ?_; intro a7 c7 w7 ho7 hg7 hl7; have hj7 := HJ6.out.kept (w1 := w7) (fun k hk m => hg7.block k hk (fun e => HNE.out k e.symm m)); have hZ7 : Sink w7 (w2.heap.size + 1 + 1) (.slice none 0 0) (.iface 71 (.pointer (some ⟨w2.heap.size + 1, 0, none⟩))) := hz7 HZ6.out hg7 HZN.out; obtain ⟨n0, n1, n2, n3, n4, n5, n6⟩ := hj7.cells; obtain ⟨y0, y1⟩ := hZ7.cells)
  refine (eq_any _ _ (ts ++ commaOf true ++ lineOf ind d) _ ?q1 ?q2 ?q3).mono ?_
  case q1 => have := HW.out; rw [List.length_append]; omega
  case q2 => exact hj7.ob.src
  case q3 => exact ho7.src
  rintro e w8 ⟨rfl, q8, rfl⟩
  have hB7 : Below w.heap.size w w7 := hB6.grown hg7 hz6 (fun k e => (hoB6.lt e).1)
  go_wp2
  go_ret
  exact ⟨rfl, hB7.os, hB7.tape, hB7.output, hB7.size, hB7.block⟩
end Go.Proofs.Ybulkpcm
