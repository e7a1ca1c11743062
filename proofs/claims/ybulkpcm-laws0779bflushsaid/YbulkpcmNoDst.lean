/-
  THE WALK OF LawS0779BNoDst.
-/
import Derived.Test.YbulkpcmMember
namespace Go.Proofs.Ybulkpcm
open Go.RowKit Go.MapKept

/-- What 'make([]byte, n)' lays. -/
def blank (n : Nat) : Array Value := madeCells #[.int .u8 0] n
theorem blank_size (n : Nat) : (blank n).size = n := size_madeCells _ _

theorem make22 (n : Nat) (h : n ≤ 65536) (w : World) : (Instr.makeSlice 22 (.int .i64 (n : Int)) (.int .i64 (n : Int))).run Yba.prog w = .ok (.slice (some ⟨w.heap.size, 0, none⟩) n n) (w.alloc (.cells (blank n) 5)) := by
  obtain ⟨i, h1, h2, h3, h4⟩ := info_parts info5
  have h := run_make (P := Yba.prog) w 22 5 i _ Yba.underlying22 h1 h2 .i64 .i64 n n (by omega) (by omega) (by rw [h4]; omega) (by omega)
  rw [h3] at h
  simpa [blank, Value.cells] using h

/-- Block b is a row of n bytes whose first i are blanks. -/
def Pad (w : World) (b n i : Nat) : Prop := ∃ c, w.heap[b]? = some (.cells c 5 (0, 0)) ∧ c.size = n ∧ ∀ j, j < i → j < n → c[j]? = some (.int .u8 32)

section
variable {w : World} {b n i : Nat}
theorem Pad.start (w : World) (n : Nat) : Pad (w.alloc (.cells (blank n) 5)) w.heap.size n 0 := ⟨_, (heap_alloc w _).1, blank_size n, fun _ h => by omega⟩
theorem Pad.step (h : Pad w b n i) (hi : i < n) : Pad (w.setCell ⟨b, i, none⟩ (.int .u8 32)) b n (i + 1) := by
  obtain ⟨c, h1, h2, h3⟩ := h
  refine ⟨_, setCell_blk w b i _ h1, by simp [h2], fun j hj hn => ?_⟩
  by_cases e : j = i
  · subst e
    exact Array.getElem?_setIfInBounds_self_of_lt (by omega)
  · rw [Array.getElem?_setIfInBounds_ne (by omega)]
    exact h3 j (by omega) hn
theorem Pad.cell (h : Pad w b n i) {j : Nat} (hj : j < n) : (∃ v, w.cell? ⟨b, j, none⟩ = some v) ∧ w.frozen? ⟨b, j, none⟩ = false := by
  obtain ⟨c, h1, h2, h3⟩ := h
  exact ⟨⟨c[j]'(by omega), by simp [World.cell?, h1, h2, hj]⟩, by simp [World.frozen?, h1]⟩
theorem Pad.own (h : Pad w b n n) (hn : n ≤ 65536) {B : Nat} (hB : B ≤ b) : Own w B (.slice (some ⟨b, 0, none⟩) n n) (List.replicate n 32) := by
  obtain ⟨c, h1, h2, h3⟩ := h
  unfold Own
  rw [List.length_replicate]
  refine ⟨by simp [ints], .inr ⟨b, n, c, rfl, hB, h1, Nat.le_refl _, by unfold maxLen; omega, by omega, ?_⟩⟩
  apply List.ext_getElem?
  intro j
  by_cases hj : j < n
  · rw [Nat.mul_one, List.getElem?_take_of_lt hj]
    have := h3 j hj hj
    simp [ints, hj]
    simpa using this
  · rw [List.getElem?_eq_none (by simp; omega), List.getElem?_eq_none (by simp [ints]; omega)]
end

/-- zzs0779bline, both ways. -/
theorem line_any (ind : Bool) (d : Nat) (hd : d ≤ 255) (w : World) : Calls Yba.prog 8 #[.bool ind, .int .i64 (d : Int)] w fun e w' => ∃ v, e = .returned v ∧ Own w' w.heap.size v (lineOf ind d) ∧ Below w.heap.size w w' := by
  cases ind
  · refine (line_no _ w).mono ?_
    rintro e w' ⟨rfl, rfl⟩
    exact ⟨_, rfl, own_nil _ _, Below.refl _ _⟩
  · exact line_yes d hd w

theorem lineOf_len (ind : Bool) (d : Nat) : (lineOf ind d).length ≤ 2 * d + 1 := by
  unfold lineOf
  split <;> simp

theorem commaOf_len (emp : Bool) : (commaOf emp).length ≤ 1 := by
  unfold commaOf
  split <;> simp

set_option maxRecDepth 100000 in
set_option maxHeartbeats 400000 in
theorem nodst_long (a0 : Option Addr) (len cap : Nat) (v1 v2 v3 v4 : Value) (w : World) (h : 1024 < len) :
    Calls Yba.prog 3 #[.slice a0 len cap, v1, v2, v3, v4] w fun e w' => e = .returned (.bool true) ∧ Below w.heap.size w w' := by
  have hc0 : (1024 : Int) < (len : Int) := by omega
  go_enter Yba.func3, Yba.ntmps3
  go_wp2
  go_ret
  exact ⟨rfl, Below.refl _ _⟩

set_option maxRecDepth 100000 in
set_option maxHeartbeats 2000000 in
theorem nodst_any (a0 : Option Addr) (len cap : Nat) (bs : List Int) (ind emp : Bool) (d : Nat) (a4 : Int) (w : World) (hn : len ≤ 1024) (hbs : bs.length = len) (hd : d ≤ 255) (h4 : 0 ≤ a4) (h4' : a4 ≤ 65535)
    (hsrc : SrcB w (.slice a0 len cap) bs) :
    Calls Yba.prog 3 #[.slice a0 len cap, .bool ind, .bool emp, .int .u8 (d : Int), .int .u16 a4] w fun e w' => e = .returned (.bool true) ∧ Below w.heap.size w w' := by
  obtain ⟨pl, hpl, hpl'⟩ : ∃ pl : Nat, pl < 600 ∧ a4 % 600 = (pl : Int) := ⟨(a4 % 600).toNat, by omega, by omega⟩
  have hmk := make22 pl (by omega)
  have hc0 : decide (1024 < (len : Int)) = false := by simp; omega
  go_enter Yba.func3, Yba.ntmps3
  go_wp2_with (first | (at_builtin; refine wpList_append_bytes rfl (.const (.slice none 0 0)) (.tmp 23) rfl w.heap.size _ _ [] bs (own_nil _ _) hsrc rfl rfl len (by simpa using hbs) (by omega) (Nat.le_refl _) ?_; intro ab cb w1 hob hgb hlb))
  rw [hpl']
  clear hpl' hmk
  simp only [List.nil_append] at hob
  have hB1 : Below w.heap.size w w1 := (Below.refl w.heap.size w).grown hgb (Nat.le_refl _) (fun k e => by cases e)
  have hlb' : ∀ k, (Value.slice ab len cb).ownBlock = some k → k < w1.heap.size := fun k e => (hob.lt e).2
  go_loopw [14] (fun i wr => ∃ r : Nat, r ≤ pl ∧ i = .int .i64 r ∧ Below w1.heap.size w1 wr ∧ Pad wr w1.heap.size pl r ∧ w1.heap.size < wr.heap.size) (fun i _ => pl - (intOf i).toNat)
  case atStart => exact ⟨0, Nat.zero_le _, rfl, (Below.refl _ _).alloc (Nat.le_refl _) _, Pad.start _ _, by simp⟩
  case round =>
    obtain ⟨r, hr, rfl, hb, hpad, hsz⟩ := hrel
    by_cases hlt : r < pl
    · obtain ⟨⟨v, k0⟩, k1⟩ := hpad.cell hlt
      go_wp2
      go_roundw
      case rel => exact ⟨r + 1, by omega, by go_num, hb.setCell (Nat.le_refl _) _, hpad.step hlt, by simpa [World.setCell] using hsz⟩
      case measure => simp [intOf]; omega
    · obtain rfl : r = pl := by omega
      have hop := hpad.own (by omega) (B := w.heap.size) (by have := hB1.size; omega)
      have hob2 := hob.below hb hlb'
      have hB2 : Below w.heap.size w wr := hB1.trans (hb.mono (by have := hB1.size; omega))
      clear hlt hr
      go_wp2_with fail
      refine (member_nil w.heap.size wr.heap.size (.slice ab len cb) .nilIface ind d emp (.slice (some ⟨w1.heap.size, 0, none⟩) r r) bs r _ hd (by omega) (by omega) ?qB ?qJ).mono ?_
      case qB => have := hB2.size; simp; omega
      case qJ =>
        refine ⟨(heap_alloc wr _).1, hob2.alloc _, hop.alloc _, fun k e c => ?_⟩
        have := hlb' k e
        simp [Value.ownBlock] at c
        omega
      rintro e w3 ⟨rfl, buf', pad', hj3, hs3⟩
      have hmine : ∀ k, Mine wr.heap.size (.slice ab len cb) (.slice (some ⟨w1.heap.size, 0, none⟩) r r) k → w.heap.size ≤ k := by
        intro k hk
        have h1 := hB1.size
        rcases hk with rfl | hk | hk
        · omega
        · exact (hob.lt hk).1
        · simp [Value.ownBlock] at hk; omega
      have hB3 : Below w.heap.size w w3 := (hB2.alloc (by have := hB2.size; omega) _).trans (hs3.fr.toBelow (by have := hB2.size; simp; omega) hmine)
      have hsrc3 : SrcB w3 (.slice a0 len cap) bs := hsrc.kept (fun a u hu => by rw [hB3.cell (World.block_lt_of_cell? _ _ hu)]; exact hu)
      clear hs3 hmine hB2 hob2 hop hb hpad hsz hlb' hB1 hob hgb hlb hsrc
      cases emp
      · cases ind
        · have hpo : padOf false r d = r := by simp [padOf] <;> omega
          rw [hpo] at hj3
          clear hpo
          obtain ⟨pa, pc, hpa⟩ := hj3.op.len
          rw [List.length_replicate] at hpa
          subst hpa
          have HJ : Hid _ := hj3
          clear hj3
          have hle : bs.length + [(44 : Int)].length = len + 1 := by simp; omega
          go_wp2_with (first | (at_builtin; refine wpList_append_bytes rfl (.const (.slice none 0 0)) (.tmp 49) rfl w3.heap.size _ _ [] bs (own_nil _ _) hsrc3 rfl rfl len (by simpa using hbs) (by omega) (Nat.le_refl _) ?_; intro aw cw w4 ho4 hg4 hl4) | (at_builtin; refine wpList_append_bytes rfl (.tmp 53) (.tmp 54) rfl w3.heap.size (.slice aw len cw) _ bs [44] (by simpa using ho4.alloc (.cells #[.int .u8 44] 5)) (src_one _ _) rfl rfl (len + 1) hle (by omega) (by have := hg4.size; simp; omega) ?_; intro aw5 cw5 w5 ho5 hg5 hl5) | fail)
          have hbX : Below w3.heap.size w3 w5 := (((Below.refl w3.heap.size w3).grown hg4 (Nat.le_refl _) (fun k e => by cases e)).alloc hg4.size _).grown hg5 (by have := hg4.size; simp; omega) (fun k e => (ho4.lt e).1)
          have hoX : Own w5 w3.heap.size (.slice aw5 (len + 1) cw5) (bs ++ commaOf false) := ho5
          clear ho4 hg4 hl4 ho5 hg5 hl5 hle
          have hoc := commaOf_len false
          refine (line_any false d hd w5).mono ?_
          rintro e w6 ⟨vl, rfl, hol, hb6⟩
          have hoX6 := hoX.below hb6 (fun k e => (hoX.lt e).2)
          have hb36 : Below w3.heap.size w3 w6 := hbX.trans (hb6.mono (by have := hbX.size; omega))
          have hsl := hol.src
          have hll := lineOf_len false d
          obtain ⟨nW, HW⟩ : ∃ n, Hid ((bs ++ commaOf false).length + (lineOf false d).length = n) := ⟨_, rfl⟩
          have hnW : nW ≤ 3000 := by have := HW.out; rw [List.length_append] at this; omega
          have hsz6 := hb36.size
          clear hbX hol hb6 hoX hll hoc
          go_wp2_with (at_builtin; refine wpList_append_bytes rfl (.tmp 56) (.tmp 59) rfl w3.heap.size (.slice aw5 (len + 1) cw5) vl (bs ++ commaOf false) (lineOf false d) hoX6 hsl rfl rfl nW HW.out (by omega) (by omega) ?_; intro a7 c7 w7 ho7 hg7 hl7; have hb7 : Below w3.heap.size w3 w7 := hb36.grown hg7 hsz6 (fun k e => (hoX6.lt e).1); have hx := HJ.out.kept (w1 := w7) (fun k hk _ => hb7.block k hk); obtain ⟨m0, m1, m2, m3, m4, m5, m6⟩ := hx.cells)
          have hB7 : Below w.heap.size w w7 := hB3.trans (hb7.mono (by have := hB3.size; omega))
          have hbx := hx.ob.src
          have how := ho7.src
          have hop7 := hx.op
          have hlen7 : (bs ++ commaOf false ++ lineOf false d).length ≤ 1000000 := by have := HW.out; rw [List.length_append]; omega
          clear hg7 hl7 hoX6 hb36 hb7 hsl hx HJ ho7 HW hsz6
          have hcell : ∀ j, j < r → ∃ g, pa = some ⟨g, 0, none⟩ ∧ w7.cell? ⟨g, j, none⟩ = some (.int .u8 32) := by
            intro j hj
            rcases hop7.cases with ⟨e, e'⟩ | ⟨g, cap', cur, e, _, _, _, _, _, hc⟩
            · have : (List.replicate (r) (32 : Int)).length = 0 := by rw [e']; rfl
              rw [List.length_replicate] at this
              omega
            · simp at e
              refine ⟨g, e.1, ?_⟩
              have := hc j (by rw [List.length_replicate]; exact hj)
              rw [this]
              simp [hj]
          have Hcell : Hid _ := hcell
          clear hcell hop7
          go_loop [19] (fun i => ∃ q : Nat, q ≤ r ∧ i = .int .i64 q) (fun i => r - (intOf i).toNat)
          case atStart => exact ⟨0, Nat.zero_le _, rfl⟩
          case round =>
            obtain ⟨q, hq, rfl⟩ := hrel
            by_cases hlt : q < r
            · obtain ⟨g, hg, hgc⟩ := Hcell.out q hlt
              subst hg
              go_wp2
              go_round
              case rel => exact ⟨q + 1, by omega, by go_num⟩
              case measure => simp [intOf]; omega
            · go_wp2_with (go_at_call 9; refine (eq_any _ _ _ _ hlen7 hbx how).mono ?_; rintro e w8 ⟨rfl, q8, rfl⟩)
              go_ret
              exact ⟨rfl, hB7.os, hB7.tape, hB7.output, hB7.size, hB7.block⟩
        · by_cases hrd : r < 2 * d
          · have hrd1 : (r : Int) < 2 * (d : Int) := by omega
            have hpo : padOf true r d = (2 * d) := by simp [padOf] <;> omega
            rw [hpo] at hj3
            clear hpo
            obtain ⟨pa, pc, hpa⟩ := hj3.op.len
            rw [List.length_replicate] at hpa
            subst hpa
            have HJ : Hid _ := hj3
            clear hj3
            have hle : bs.length + [(44 : Int)].length = len + 1 := by simp; omega
            go_wp2_with (first | (at_builtin; refine wpList_append_bytes rfl (.const (.slice none 0 0)) (.tmp 49) rfl w3.heap.size _ _ [] bs (own_nil _ _) hsrc3 rfl rfl len (by simpa using hbs) (by omega) (Nat.le_refl _) ?_; intro aw cw w4 ho4 hg4 hl4) | (at_builtin; refine wpList_append_bytes rfl (.tmp 53) (.tmp 54) rfl w3.heap.size (.slice aw len cw) _ bs [44] (by simpa using ho4.alloc (.cells #[.int .u8 44] 5)) (src_one _ _) rfl rfl (len + 1) hle (by omega) (by have := hg4.size; simp; omega) ?_; intro aw5 cw5 w5 ho5 hg5 hl5) | fail)
            have hbX : Below w3.heap.size w3 w5 := (((Below.refl w3.heap.size w3).grown hg4 (Nat.le_refl _) (fun k e => by cases e)).alloc hg4.size _).grown hg5 (by have := hg4.size; simp; omega) (fun k e => (ho4.lt e).1)
            have hoX : Own w5 w3.heap.size (.slice aw5 (len + 1) cw5) (bs ++ commaOf false) := ho5
            clear ho4 hg4 hl4 ho5 hg5 hl5 hle
            have hoc := commaOf_len false
            refine (line_any true d hd w5).mono ?_
            rintro e w6 ⟨vl, rfl, hol, hb6⟩
            have hoX6 := hoX.below hb6 (fun k e => (hoX.lt e).2)
            have hb36 : Below w3.heap.size w3 w6 := hbX.trans (hb6.mono (by have := hbX.size; omega))
            have hsl := hol.src
            have hll := lineOf_len true d
            obtain ⟨nW, HW⟩ : ∃ n, Hid ((bs ++ commaOf false).length + (lineOf true d).length = n) := ⟨_, rfl⟩
            have hnW : nW ≤ 3000 := by have := HW.out; rw [List.length_append] at this; omega
            have hsz6 := hb36.size
            clear hbX hol hb6 hoX hll hoc
            go_wp2_with (at_builtin; refine wpList_append_bytes rfl (.tmp 56) (.tmp 59) rfl w3.heap.size (.slice aw5 (len + 1) cw5) vl (bs ++ commaOf false) (lineOf true d) hoX6 hsl rfl rfl nW HW.out (by omega) (by omega) ?_; intro a7 c7 w7 ho7 hg7 hl7; have hb7 : Below w3.heap.size w3 w7 := hb36.grown hg7 hsz6 (fun k e => (hoX6.lt e).1); have hx := HJ.out.kept (w1 := w7) (fun k hk _ => hb7.block k hk); obtain ⟨m0, m1, m2, m3, m4, m5, m6⟩ := hx.cells)
            have hB7 : Below w.heap.size w w7 := hB3.trans (hb7.mono (by have := hB3.size; omega))
            have hbx := hx.ob.src
            have how := ho7.src
            have hop7 := hx.op
            have hlen7 : (bs ++ commaOf false ++ lineOf true d).length ≤ 1000000 := by have := HW.out; rw [List.length_append]; omega
            clear hg7 hl7 hoX6 hb36 hb7 hsl hx HJ ho7 HW hsz6
            have hcell : ∀ j, j < (2 * d) → ∃ g, pa = some ⟨g, 0, none⟩ ∧ w7.cell? ⟨g, j, none⟩ = some (.int .u8 32) := by
              intro j hj
              rcases hop7.cases with ⟨e, e'⟩ | ⟨g, cap', cur, e, _, _, _, _, _, hc⟩
              · have : (List.replicate ((2 * d)) (32 : Int)).length = 0 := by rw [e']; rfl
                rw [List.length_replicate] at this
                omega
              · simp at e
                refine ⟨g, e.1, ?_⟩
                have := hc j (by rw [List.length_replicate]; exact hj)
                rw [this]
                simp [hj]
            have Hcell : Hid _ := hcell
            clear hcell hop7
            go_loop [19] (fun i => ∃ q : Nat, q ≤ (2 * d) ∧ i = .int .i64 q) (fun i => (2 * d) - (intOf i).toNat)
            case atStart => exact ⟨0, Nat.zero_le _, rfl⟩
            case round =>
              obtain ⟨q, hq, rfl⟩ := hrel
              by_cases hlt : q < (2 * d)
              · obtain ⟨g, hg, hgc⟩ := Hcell.out q hlt
                subst hg
                go_wp2
                go_round
                case rel => exact ⟨q + 1, by omega, by go_num⟩
                case measure => simp [intOf]; omega
              · go_wp2_with (go_at_call 9; refine (eq_any _ _ _ _ hlen7 hbx how).mono ?_; rintro e w8 ⟨rfl, q8, rfl⟩)
                go_ret
                exact ⟨rfl, hB7.os, hB7.tape, hB7.output, hB7.size, hB7.block⟩
          · have hrd1 : ¬ (r : Int) < 2 * (d : Int) := by omega
            have hpo : padOf true r d = r := by simp [padOf] <;> omega
            rw [hpo] at hj3
            clear hpo
            obtain ⟨pa, pc, hpa⟩ := hj3.op.len
            rw [List.length_replicate] at hpa
            subst hpa
            have HJ : Hid _ := hj3
            clear hj3
            have hle : bs.length + [(44 : Int)].length = len + 1 := by simp; omega
            go_wp2_with (first | (at_builtin; refine wpList_append_bytes rfl (.const (.slice none 0 0)) (.tmp 49) rfl w3.heap.size _ _ [] bs (own_nil _ _) hsrc3 rfl rfl len (by simpa using hbs) (by omega) (Nat.le_refl _) ?_; intro aw cw w4 ho4 hg4 hl4) | (at_builtin; refine wpList_append_bytes rfl (.tmp 53) (.tmp 54) rfl w3.heap.size (.slice aw len cw) _ bs [44] (by simpa using ho4.alloc (.cells #[.int .u8 44] 5)) (src_one _ _) rfl rfl (len + 1) hle (by omega) (by have := hg4.size; simp; omega) ?_; intro aw5 cw5 w5 ho5 hg5 hl5) | fail)
            have hbX : Below w3.heap.size w3 w5 := (((Below.refl w3.heap.size w3).grown hg4 (Nat.le_refl _) (fun k e => by cases e)).alloc hg4.size _).grown hg5 (by have := hg4.size; simp; omega) (fun k e => (ho4.lt e).1)
            have hoX : Own w5 w3.heap.size (.slice aw5 (len + 1) cw5) (bs ++ commaOf false) := ho5
            clear ho4 hg4 hl4 ho5 hg5 hl5 hle
            have hoc := commaOf_len false
            refine (line_any true d hd w5).mono ?_
            rintro e w6 ⟨vl, rfl, hol, hb6⟩
            have hoX6 := hoX.below hb6 (fun k e => (hoX.lt e).2)
            have hb36 : Below w3.heap.size w3 w6 := hbX.trans (hb6.mono (by have := hbX.size; omega))
            have hsl := hol.src
            have hll := lineOf_len true d
            obtain ⟨nW, HW⟩ : ∃ n, Hid ((bs ++ commaOf false).length + (lineOf true d).length = n) := ⟨_, rfl⟩
            have hnW : nW ≤ 3000 := by have := HW.out; rw [List.length_append] at this; omega
            have hsz6 := hb36.size
            clear hbX hol hb6 hoX hll hoc
            go_wp2_with (at_builtin; refine wpList_append_bytes rfl (.tmp 56) (.tmp 59) rfl w3.heap.size (.slice aw5 (len + 1) cw5) vl (bs ++ commaOf false) (lineOf true d) hoX6 hsl rfl rfl nW HW.out (by omega) (by omega) ?_; intro a7 c7 w7 ho7 hg7 hl7; have hb7 : Below w3.heap.size w3 w7 := hb36.grown hg7 hsz6 (fun k e => (hoX6.lt e).1); have hx := HJ.out.kept (w1 := w7) (fun k hk _ => hb7.block k hk); obtain ⟨m0, m1, m2, m3, m4, m5, m6⟩ := hx.cells)
            have hB7 : Below w.heap.size w w7 := hB3.trans (hb7.mono (by have := hB3.size; omega))
            have hbx := hx.ob.src
            have how := ho7.src
            have hop7 := hx.op
            have hlen7 : (bs ++ commaOf false ++ lineOf true d).length ≤ 1000000 := by have := HW.out; rw [List.length_append]; omega
            clear hg7 hl7 hoX6 hb36 hb7 hsl hx HJ ho7 HW hsz6
            have hcell : ∀ j, j < r → ∃ g, pa = some ⟨g, 0, none⟩ ∧ w7.cell? ⟨g, j, none⟩ = some (.int .u8 32) := by
              intro j hj
              rcases hop7.cases with ⟨e, e'⟩ | ⟨g, cap', cur, e, _, _, _, _, _, hc⟩
              · have : (List.replicate (r) (32 : Int)).length = 0 := by rw [e']; rfl
                rw [List.length_replicate] at this
                omega
              · simp at e
                refine ⟨g, e.1, ?_⟩
                have := hc j (by rw [List.length_replicate]; exact hj)
                rw [this]
                simp [hj]
            have Hcell : Hid _ := hcell
            clear hcell hop7
            go_loop [19] (fun i => ∃ q : Nat, q ≤ r ∧ i = .int .i64 q) (fun i => r - (intOf i).toNat)
            case atStart => exact ⟨0, Nat.zero_le _, rfl⟩
            case round =>
              obtain ⟨q, hq, rfl⟩ := hrel
              by_cases hlt : q < r
              · obtain ⟨g, hg, hgc⟩ := Hcell.out q hlt
                subst hg
                go_wp2
                go_round
                case rel => exact ⟨q + 1, by omega, by go_num⟩
                case measure => simp [intOf]; omega
              · go_wp2_with (go_at_call 9; refine (eq_any _ _ _ _ hlen7 hbx how).mono ?_; rintro e w8 ⟨rfl, q8, rfl⟩)
                go_ret
                exact ⟨rfl, hB7.os, hB7.tape, hB7.output, hB7.size, hB7.block⟩
      · cases ind
        · have hpo : padOf false r d = r := by simp [padOf] <;> omega
          rw [hpo] at hj3
          clear hpo
          obtain ⟨pa, pc, hpa⟩ := hj3.op.len
          rw [List.length_replicate] at hpa
          subst hpa
          have HJ : Hid _ := hj3
          clear hj3
          go_wp2_with (first | (at_builtin; refine wpList_append_bytes rfl (.const (.slice none 0 0)) (.tmp 49) rfl w3.heap.size _ _ [] bs (own_nil _ _) hsrc3 rfl rfl len (by simpa using hbs) (by omega) (Nat.le_refl _) ?_; intro aw cw w4 ho4 hg4 hl4) | fail)
          have hbX : Below w3.heap.size w3 w4 := (Below.refl w3.heap.size w3).grown hg4 (Nat.le_refl _) (fun k e => by cases e)
          have hoX : Own w4 w3.heap.size (.slice aw len cw) (bs ++ commaOf true) := by simpa [commaOf] using ho4
          clear ho4 hg4 hl4
          have hoc := commaOf_len true
          refine (line_any false d hd w4).mono ?_
          rintro e w6 ⟨vl, rfl, hol, hb6⟩
          have hoX6 := hoX.below hb6 (fun k e => (hoX.lt e).2)
          have hb36 : Below w3.heap.size w3 w6 := hbX.trans (hb6.mono (by have := hbX.size; omega))
          have hsl := hol.src
          have hll := lineOf_len false d
          obtain ⟨nW, HW⟩ : ∃ n, Hid ((bs ++ commaOf true).length + (lineOf false d).length = n) := ⟨_, rfl⟩
          have hnW : nW ≤ 3000 := by have := HW.out; rw [List.length_append] at this; omega
          have hsz6 := hb36.size
          clear hbX hol hb6 hoX hll hoc
          go_wp2_with (at_builtin; refine wpList_append_bytes rfl (.tmp 56) (.tmp 59) rfl w3.heap.size (.slice aw len cw) vl (bs ++ commaOf true) (lineOf false d) hoX6 hsl rfl rfl nW HW.out (by omega) (by omega) ?_; intro a7 c7 w7 ho7 hg7 hl7; have hb7 : Below w3.heap.size w3 w7 := hb36.grown hg7 hsz6 (fun k e => (hoX6.lt e).1); have hx := HJ.out.kept (w1 := w7) (fun k hk _ => hb7.block k hk); obtain ⟨m0, m1, m2, m3, m4, m5, m6⟩ := hx.cells)
          have hB7 : Below w.heap.size w w7 := hB3.trans (hb7.mono (by have := hB3.size; omega))
          have hbx := hx.ob.src
          have how := ho7.src
          have hop7 := hx.op
          have hlen7 : (bs ++ commaOf true ++ lineOf false d).length ≤ 1000000 := by have := HW.out; rw [List.length_append]; omega
          clear hg7 hl7 hoX6 hb36 hb7 hsl hx HJ ho7 HW hsz6
          have hcell : ∀ j, j < r → ∃ g, pa = some ⟨g, 0, none⟩ ∧ w7.cell? ⟨g, j, none⟩ = some (.int .u8 32) := by
            intro j hj
            rcases hop7.cases with ⟨e, e'⟩ | ⟨g, cap', cur, e, _, _, _, _, _, hc⟩
            · have : (List.replicate (r) (32 : Int)).length = 0 := by rw [e']; rfl
              rw [List.length_replicate] at this
              omega
            · simp at e
              refine ⟨g, e.1, ?_⟩
              have := hc j (by rw [List.length_replicate]; exact hj)
              rw [this]
              simp [hj]
          have Hcell : Hid _ := hcell
          clear hcell hop7
          go_loop [19] (fun i => ∃ q : Nat, q ≤ r ∧ i = .int .i64 q) (fun i => r - (intOf i).toNat)
          case atStart => exact ⟨0, Nat.zero_le _, rfl⟩
          case round =>
            obtain ⟨q, hq, rfl⟩ := hrel
            by_cases hlt : q < r
            · obtain ⟨g, hg, hgc⟩ := Hcell.out q hlt
              subst hg
              go_wp2
              go_round
              case rel => exact ⟨q + 1, by omega, by go_num⟩
              case measure => simp [intOf]; omega
            · go_wp2_with (go_at_call 9; refine (eq_any _ _ _ _ hlen7 hbx how).mono ?_; rintro e w8 ⟨rfl, q8, rfl⟩)
              go_ret
              exact ⟨rfl, hB7.os, hB7.tape, hB7.output, hB7.size, hB7.block⟩
        · by_cases hrd : r < 2 * d
          · have hrd1 : (r : Int) < 2 * (d : Int) := by omega
            have hpo : padOf true r d = (2 * d) := by simp [padOf] <;> omega
            rw [hpo] at hj3
            clear hpo
            obtain ⟨pa, pc, hpa⟩ := hj3.op.len
            rw [List.length_replicate] at hpa
            subst hpa
            have HJ : Hid _ := hj3
            clear hj3
            go_wp2_with (first | (at_builtin; refine wpList_append_bytes rfl (.const (.slice none 0 0)) (.tmp 49) rfl w3.heap.size _ _ [] bs (own_nil _ _) hsrc3 rfl rfl len (by simpa using hbs) (by omega) (Nat.le_refl _) ?_; intro aw cw w4 ho4 hg4 hl4) | fail)
            have hbX : Below w3.heap.size w3 w4 := (Below.refl w3.heap.size w3).grown hg4 (Nat.le_refl _) (fun k e => by cases e)
            have hoX : Own w4 w3.heap.size (.slice aw len cw) (bs ++ commaOf true) := by simpa [commaOf] using ho4
            clear ho4 hg4 hl4
            have hoc := commaOf_len true
            refine (line_any true d hd w4).mono ?_
            rintro e w6 ⟨vl, rfl, hol, hb6⟩
            have hoX6 := hoX.below hb6 (fun k e => (hoX.lt e).2)
            have hb36 : Below w3.heap.size w3 w6 := hbX.trans (hb6.mono (by have := hbX.size; omega))
            have hsl := hol.src
            have hll := lineOf_len true d
            obtain ⟨nW, HW⟩ : ∃ n, Hid ((bs ++ commaOf true).length + (lineOf true d).length = n) := ⟨_, rfl⟩
            have hnW : nW ≤ 3000 := by have := HW.out; rw [List.length_append] at this; omega
            have hsz6 := hb36.size
            clear hbX hol hb6 hoX hll hoc
            go_wp2_with (at_builtin; refine wpList_append_bytes rfl (.tmp 56) (.tmp 59) rfl w3.heap.size (.slice aw len cw) vl (bs ++ commaOf true) (lineOf true d) hoX6 hsl rfl rfl nW HW.out (by omega) (by omega) ?_; intro a7 c7 w7 ho7 hg7 hl7; have hb7 : Below w3.heap.size w3 w7 := hb36.grown hg7 hsz6 (fun k e => (hoX6.lt e).1); have hx := HJ.out.kept (w1 := w7) (fun k hk _ => hb7.block k hk); obtain ⟨m0, m1, m2, m3, m4, m5, m6⟩ := hx.cells)
            have hB7 : Below w.heap.size w w7 := hB3.trans (hb7.mono (by have := hB3.size; omega))
            have hbx := hx.ob.src
            have how := ho7.src
            have hop7 := hx.op
            have hlen7 : (bs ++ commaOf true ++ lineOf true d).length ≤ 1000000 := by have := HW.out; rw [List.length_append]; omega
            clear hg7 hl7 hoX6 hb36 hb7 hsl hx HJ ho7 HW hsz6
            have hcell : ∀ j, j < (2 * d) → ∃ g, pa = some ⟨g, 0, none⟩ ∧ w7.cell? ⟨g, j, none⟩ = some (.int .u8 32) := by
              intro j hj
              rcases hop7.cases with ⟨e, e'⟩ | ⟨g, cap', cur, e, _, _, _, _, _, hc⟩
              · have : (List.replicate ((2 * d)) (32 : Int)).length = 0 := by rw [e']; rfl
                rw [List.length_replicate] at this
                omega
              · simp at e
                refine ⟨g, e.1, ?_⟩
                have := hc j (by rw [List.length_replicate]; exact hj)
                rw [this]
                simp [hj]
            have Hcell : Hid _ := hcell
            clear hcell hop7
            go_loop [19] (fun i => ∃ q : Nat, q ≤ (2 * d) ∧ i = .int .i64 q) (fun i => (2 * d) - (intOf i).toNat)
            case atStart => exact ⟨0, Nat.zero_le _, rfl⟩
            case round =>
              obtain ⟨q, hq, rfl⟩ := hrel
              by_cases hlt : q < (2 * d)
              · obtain ⟨g, hg, hgc⟩ := Hcell.out q hlt
                subst hg
                go_wp2
                go_round
                case rel => exact ⟨q + 1, by omega, by go_num⟩
                case measure => simp [intOf]; omega
              · go_wp2_with (go_at_call 9; refine (eq_any _ _ _ _ hlen7 hbx how).mono ?_; rintro e w8 ⟨rfl, q8, rfl⟩)
                go_ret
                exact ⟨rfl, hB7.os, hB7.tape, hB7.output, hB7.size, hB7.block⟩
          · have hrd1 : ¬ (r : Int) < 2 * (d : Int) := by omega
            have hpo : padOf true r d = r := by simp [padOf] <;> omega
            rw [hpo] at hj3
            clear hpo
            obtain ⟨pa, pc, hpa⟩ := hj3.op.len
            rw [List.length_replicate] at hpa
            subst hpa
            have HJ : Hid _ := hj3
            clear hj3
            go_wp2_with (first | (at_builtin; refine wpList_append_bytes rfl (.const (.slice none 0 0)) (.tmp 49) rfl w3.heap.size _ _ [] bs (own_nil _ _) hsrc3 rfl rfl len (by simpa using hbs) (by omega) (Nat.le_refl _) ?_; intro aw cw w4 ho4 hg4 hl4) | fail)
            have hbX : Below w3.heap.size w3 w4 := (Below.refl w3.heap.size w3).grown hg4 (Nat.le_refl _) (fun k e => by cases e)
            have hoX : Own w4 w3.heap.size (.slice aw len cw) (bs ++ commaOf true) := by simpa [commaOf] using ho4
            clear ho4 hg4 hl4
            have hoc := commaOf_len true
            refine (line_any true d hd w4).mono ?_
            rintro e w6 ⟨vl, rfl, hol, hb6⟩
            have hoX6 := hoX.below hb6 (fun k e => (hoX.lt e).2)
            have hb36 : Below w3.heap.size w3 w6 := hbX.trans (hb6.mono (by have := hbX.size; omega))
            have hsl := hol.src
            have hll := lineOf_len true d
            obtain ⟨nW, HW⟩ : ∃ n, Hid ((bs ++ commaOf true).length + (lineOf true d).length = n) := ⟨_, rfl⟩
            have hnW : nW ≤ 3000 := by have := HW.out; rw [List.length_append] at this; omega
            have hsz6 := hb36.size
            clear hbX hol hb6 hoX hll hoc
            go_wp2_with (at_builtin; refine wpList_append_bytes rfl (.tmp 56) (.tmp 59) rfl w3.heap.size (.slice aw len cw) vl (bs ++ commaOf true) (lineOf true d) hoX6 hsl rfl rfl nW HW.out (by omega) (by omega) ?_; intro a7 c7 w7 ho7 hg7 hl7; have hb7 : Below w3.heap.size w3 w7 := hb36.grown hg7 hsz6 (fun k e => (hoX6.lt e).1); have hx := HJ.out.kept (w1 := w7) (fun k hk _ => hb7.block k hk); obtain ⟨m0, m1, m2, m3, m4, m5, m6⟩ := hx.cells)
            have hB7 : Below w.heap.size w w7 := hB3.trans (hb7.mono (by have := hB3.size; omega))
            have hbx := hx.ob.src
            have how := ho7.src
            have hop7 := hx.op
            have hlen7 : (bs ++ commaOf true ++ lineOf true d).length ≤ 1000000 := by have := HW.out; rw [List.length_append]; omega
            clear hg7 hl7 hoX6 hb36 hb7 hsl hx HJ ho7 HW hsz6
            have hcell : ∀ j, j < r → ∃ g, pa = some ⟨g, 0, none⟩ ∧ w7.cell? ⟨g, j, none⟩ = some (.int .u8 32) := by
              intro j hj
              rcases hop7.cases with ⟨e, e'⟩ | ⟨g, cap', cur, e, _, _, _, _, _, hc⟩
              · have : (List.replicate (r) (32 : Int)).length = 0 := by rw [e']; rfl
                rw [List.length_replicate] at this
                omega
              · simp at e
                refine ⟨g, e.1, ?_⟩
                have := hc j (by rw [List.length_replicate]; exact hj)
                rw [this]
                simp [hj]
            have Hcell : Hid _ := hcell
            clear hcell hop7
            go_loop [19] (fun i => ∃ q : Nat, q ≤ r ∧ i = .int .i64 q) (fun i => r - (intOf i).toNat)
            case atStart => exact ⟨0, Nat.zero_le _, rfl⟩
            case round =>
              obtain ⟨q, hq, rfl⟩ := hrel
              by_cases hlt : q < r
              · obtain ⟨g, hg, hgc⟩ := Hcell.out q hlt
                subst hg
                go_wp2
                go_round
                case rel => exact ⟨q + 1, by omega, by go_num⟩
                case measure => simp [intOf]; omega
              · go_wp2_with (go_at_call 9; refine (eq_any _ _ _ _ hlen7 hbx how).mono ?_; rintro e w8 ⟨rfl, q8, rfl⟩)
                go_ret
                exact ⟨rfl, hB7.os, hB7.tape, hB7.output, hB7.size, hB7.block⟩
end Go.Proofs.Ybulkpcm
