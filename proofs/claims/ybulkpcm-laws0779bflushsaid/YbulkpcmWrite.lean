/-
  THE CONTRACT of zzs0779bw.Write (32): the first write of a sink that holds nothing yet.
-/
import Derived.Test.YbulkpcmNoDst
import Derived.Laws.CopyOwn
namespace Go.Proofs.Ybulkpcm
open Go.RowKit Go.MapKept

theorem make22' (n : Nat) (h : n ≤ 1000000) (w : World) : (Instr.makeSlice 22 (.int .i64 (n : Int)) (.int .i64 (n : Int))).run Yba.prog w = .ok (.slice (some ⟨w.heap.size, 0, none⟩) n n) (w.alloc (.cells (blank n) 5)) := by
  obtain ⟨i, h1, h2, h3, h4⟩ := info_parts info5
  have h := run_make (P := Yba.prog) w 22 5 i _ Yba.underlying22 h1 h2 .i64 .i64 n n (by omega) (by omega) (by rw [h4]; omega) (by omega)
  rw [h3] at h
  simpa [blank, Value.cells] using h

/-- THE SINK AT Z: what it got, and what it fails with. -/
def Sink (w : World) (Z : Nat) (got fail : Value) : Prop := w.heap[Z]? = some (.cells #[got, fail] 38 (0, 0))

/-- 'copy' OF BYTES INTO A ROW THAT HAS JUST BEEN MADE, AS LONG AS THEY. -/
theorem wpList_copy_bytes {w : World} {ops : Array Oper} {rest : List Oper} {o : Oper} {a : Act} {Q : Exit → Act → World → Prop} (hgd : o.guard = none) (d s : Operand)
    (ho : o.op = .call { callee := .builtin .copy, args := #[d, s], argTypes := #[22, 22] }) (B g n : Nat) (xv : Value) (xs : List Int) (cur : Array Value)
    (hg : w.heap[g]? = some (.cells cur 5 (0, 0))) (hcs : cur.size = n) (hsrc : SrcB w xv xs) (hn : xs.length = n) (h0 : 0 < n) (hm : n ≤ 1000000) (hB : B ≤ g)
    (hd : a.eval d = .slice (some ⟨g, 0, none⟩) n n) (hs : a.eval s = xv)
    (h : ∀ w', Own w' B (.slice (some ⟨g, 0, none⟩) n n) xs → w.grownBy w' (some g) → wpList Yba.prog ops Q rest (a.put o.dst (.int .i64 n)) w') :
    wpList Yba.prog ops Q (o :: rest) a w := by
  rcases hsrc with ⟨rfl, rfl⟩ | ⟨ad, c, rfl, hc⟩
  · simp at hn; omega
  · subst hn
    have hmin : Nat.min xs.length xs.length = xs.length := Nat.min_self _
    refine wpList_copy_own hgd d s 22 22 ho 5 Yba.underlying22 (by kernel_rfl) g 0 xs.length xs.length ad xs.length c hd hs cur 5 hg (ints xs) (by rw [ints_length, hmin])
      (fun j u hu => by obtain ⟨q1, q2⟩ := ints_at hu; rw [q2]; exact hc j q1) (by rw [ints_length]; omega) (ints_one xs) ?_
    have e : (cur.toList.take 0 ++ (ints xs ++ cur.toList.drop (0 + (ints xs).length))) = ints xs := by
      rw [List.take_zero, List.nil_append, ints_length, Nat.zero_add, List.drop_of_length_le (by simp; omega), List.append_nil]
    rw [e, ints_length]
    have hset : (w.setRow g (ints xs).toArray).heap[g]? = some (.cells (ints xs).toArray 5 (0, 0)) := setRow_heap w g _ _ 5 _ hg
    refine h _ ?_ ⟨rfl, rfl, rfl, by simp [World.setRow], fun k _ hk => setRow_other w g k _ (fun e => hk (by rw [e]))⟩
    exact ⟨by rw [ints_length]; omega, .inr ⟨g, xs.length, _, rfl, hB, hset, Nat.le_refl _, by unfold maxLen; omega, by simp [ints_length], by simp [ints_length, List.take_of_length_le]⟩⟩

theorem info22 : (Yba.prog.info? 22).map (fun i => (i.zero, i.size, i.bytes)) = some (some (.slice none 0 0), 1, 24) := by kernel_rfl

/-- THE FIRST SLICE OF BYTES APPENDED TO A nil ROW OF THEM. -/
theorem wpList_append_first {w : World} {ops : Array Oper} {rest : List Oper} {o : Oper} {a : Act} {Q : Exit → Act → World → Prop} (hgd : o.guard = none) (s x : Operand)
    (ho : o.op = .call { callee := .builtin .append, args := #[s, x], argTypes := #[36, 36] })
    (ad : Addr) (aa : Option Addr) (nn cc : Nat) (hs : a.eval s = .slice none 0 0) (hx : a.eval x = .slice (some ad) 1 1) (hc : w.cell? (ad.add 0) = some (.slice aa nn cc))
    (h : ∀ g c w', w'.cell? ⟨g, 0, none⟩ = some (.slice aa nn cc) → w.heap.size ≤ g → w.grownBy w' none → wpList Yba.prog ops Q rest (a.put o.dst (.slice (some ⟨g, 0, none⟩) 1 c)) w') :
    wpList Yba.prog ops Q (o :: rest) a w := by
  refine wpList_plain hgd fun K hK => ?_
  obtain ⟨i, h1, h2, h3, h4⟩ := info_parts info22
  obtain ⟨v', w', r1, r2, r3, r4, r5⟩ := run_append_own_at (P := Yba.prog) w w.heap.size 36 o.type 22 i _ 1 24 Yba.underlying36 h1 h2 h3 h4 rfl (by decide) (.slice none 0 0) 0 [] (World.ownsRow_nil w _ 22 1) ad 1 1 [.slice aa nn cc] rfl
    (fun j u hu => by
      match j, hu with
      | 0, hu => simp at hu; subst hu; exact hc)
    (fun u hu => by simp at hu; subst hu; rfl) (by unfold maxLen; omega) (by omega) (Nat.le_refl _)
  rcases r2.2 with ⟨e, e'⟩ | ⟨g, cap, cur, rfl, hg, hh, hl, hm, hsz, ht⟩
  · simp at e'
  · have hcell : w'.cell? ⟨g, 0, none⟩ = some (.slice aa nn cc) := by
      have : cur[0]? = some (.slice aa nn cc) := by
        have q : (cur.toList.take 1)[0]? = some (.slice aa nn cc) := by
          simp only [Nat.zero_add, Nat.mul_one, List.nil_append] at ht
          rw [ht]; rfl
        rw [List.getElem?_take_of_lt (by omega)] at q
        simpa using q
      simp [World.cell?, hh, this]
    unfold Oper.wp execOp
    simp only [ho, resolve, invoke, builtin, Sem.run_bind, Sem.run_pure, Result.andThen_ok, List.map_toArray, List.map_cons, List.map_nil, hs, hx, r1]
    exact hK _ _ (h g cap w' hcell hg r3)

section
variable {w w1 : World} {Z : Nat} {got fail : Value}
theorem Sink.cells (h : Sink w Z got fail) : w.cell? ⟨Z, 0, none⟩ = some got ∧ w.cell? ⟨Z, 1, none⟩ = some fail := by
  unfold Sink at h
  simp [World.cell?, h]
theorem Sink.free (h : Sink w Z got fail) (o : Nat) : w.frozen? ⟨Z, o, none⟩ = false := by
  unfold Sink at h
  simp [World.frozen?, h]
theorem Sink.lt (h : Sink w Z got fail) : Z < w.heap.size := (Array.getElem?_eq_some_iff.1 h).1
theorem Sink.kept (h : Sink w Z got fail) (hb : w1.heap[Z]? = w.heap[Z]?) : Sink w1 Z got fail := by
  unfold Sink
  rw [hb]; exact h
theorem Sink.set (h : Sink w Z got fail) (v : Value) : Sink (w.setCell ⟨Z, 0, none⟩ v) Z v fail := setCell_blk w Z 0 v h
theorem sink_copied (h : Sink w Z got fail) {c : Array Value} (hg : (w.alloc (.cells c 5)).grownBy w1 (some w.heap.size)) : Sink w1 Z got fail := by
  have hl := h.lt
  refine h.kept ?_
  rw [hg.block Z (by simp; omega) (fun e => by simp at e; omega), (heap_alloc w _).2 Z hl]

theorem sink_first (h : Sink w Z got fail) {c : Array Value} {t : TypeId} (hg : (w.alloc (.cells c t)).grownBy w1 none) : Sink w1 Z got fail := by
  have hl := h.lt
  refine h.kept ?_
  rw [hg.block Z (by simp; omega) (fun e => by cases e), (heap_alloc w _).2 Z hl]

/-- What the first write leaves. -/
theorem write_end {w2 : World} {xs : List Int} {n g c : Nat} {c0 c1 : Array Value} {t1 : TypeId} {aa : Option Addr} {nn cc : Nat} (hZ : Sink w Z got fail) (hg1 : (w.alloc (.cells c0 5)).grownBy w1 (some w.heap.size))
    (ho1 : Own w1 w.heap.size (.slice (some ⟨w.heap.size, 0, none⟩) n n) xs) (hZ1 : Sink w1 Z got fail) (hgc : w2.cell? ⟨g, 0, none⟩ = some (.slice aa nn cc)) (hgl : (w1.alloc (.cells c1 t1)).heap.size ≤ g)
    (hg2 : (w1.alloc (.cells c1 t1)).grownBy w2 none) (hZ2 : Sink w2 Z got fail) :
    Sink (w2.setCell ⟨Z, 0, none⟩ (.slice (some ⟨g, 0, none⟩) 1 c)) Z (.slice (some ⟨g, 0, none⟩) 1 c) fail ∧ (w2.setCell ⟨Z, 0, none⟩ (.slice (some ⟨g, 0, none⟩) 1 c)).cell? ⟨g, 0, none⟩ = some (.slice aa nn cc) ∧
    Own (w2.setCell ⟨Z, 0, none⟩ (.slice (some ⟨g, 0, none⟩) 1 c)) w.heap.size (.slice (some ⟨w.heap.size, 0, none⟩) n n) xs ∧ w.heap.size ≤ g ∧ Fr w (w2.setCell ⟨Z, 0, none⟩ (.slice (some ⟨g, 0, none⟩) 1 c)) (fun k => k = Z) := by
  have z := hZ.lt
  have z1 := hZ1.lt
  have s1 := hg1.size
  simp at hgl s1
  have hoth : ∀ k, k ≠ Z → (w2.setCell ⟨Z, 0, none⟩ (.slice (some ⟨g, 0, none⟩) 1 c)).heap[k]? = w2.heap[k]? := fun k hk => Below.heap_setCell _ _ _ _ hk
  have hold : ∀ k, k < w1.heap.size → w2.heap[k]? = w1.heap[k]? := fun k hk => by
    rw [hg2.block k (by simp; omega) (fun e => by cases e), (heap_alloc w1 _).2 k hk]
  refine ⟨hZ2.set _, ?_, ?_, by omega, ?_⟩
  · rw [World.cell?_of_block (w := w2) (hoth g (by omega))]; exact hgc
  · refine ho1.kept (fun k hk => ?_)
    have hkl := (ho1.lt hk)
    rw [hoth k (by omega), hold k hkl.2]
  · refine ⟨hg2.os.trans hg1.os, hg2.tape.trans hg1.tape, hg2.output.trans hg1.output, ?_, fun k hk hne => ?_⟩
    · have := hg2.size
      simp at this
      simp [World.setCell]
      omega
    · rw [hoth k hne, hold k (by omega), hg1.block k (by simp; omega) (fun e => by simp at e; omega), (heap_alloc w _).2 k hk]
end

set_option maxRecDepth 100000 in
set_option maxHeartbeats 1000000 in
theorem write_any (B Z : Nat) (fail xv : Value) (xs : List Int) (n : Nat) (w : World) (hZ : Sink w Z (.slice none 0 0) fail) (ho : Own w B xv xs) (hn : xs.length = n) (h0 : 0 < n) (hm : n ≤ 100000)
    (hf : fail = .nilIface ∨ ∃ t x, fail = .iface t x) :
    Calls Yba.prog 32 #[.pointer (some ⟨Z, 0, none⟩), xv] w fun e w' => ∃ k g cg ca cn cc, e = .returned (.tuple #[.int .i64 k, fail]) ∧ Sink w' Z (.slice (some ⟨g, 0, none⟩) 1 cg) fail ∧ w'.cell? ⟨g, 0, none⟩ = some (.slice ca cn cc) ∧
      Own w' w.heap.size (.slice ca cn cc) xs ∧ w.heap.size ≤ g ∧ Fr w w' (fun k => k = Z) := by
  have hmk := make22' n (by omega)
  obtain ⟨xa, xc, hxv⟩ := ho.len
  rw [hn] at hxv
  subst hxv
  obtain ⟨z0, z1⟩ := hZ.cells
  have hzl := hZ.lt
  go_enter Yba.func32, Yba.ntmps32
  rcases hf with rfl | ⟨t, x, rfl⟩
  · go_wp2_with (first | (refine wpList_copy_bytes rfl (.tmp 10) (.tmp 11) rfl w.heap.size w.heap.size n (.slice xa n xc) xs (blank n) (heap_alloc w _).1 (blank_size n) ((ho.alloc _).src) hn h0 (by omega) (Nat.le_refl _) rfl rfl ?_; intro w1 ho1 hg1; have hZ1 := sink_copied hZ hg1; obtain ⟨y0, y1⟩ := hZ1.cells; have yf := hZ1.free; have ysz := hg1.size; have hzl1 := hZ1.lt) | (at_builtin; refine wpList_append_first rfl (.tmp 17) (.tmp 19) rfl ⟨w1.heap.size, 0, none⟩ (some ⟨w.heap.size, 0, none⟩) n n rfl rfl (cell_one_new w1 _ 22 0 _ rfl) ?_; intro g c w2 hgc hgl hg2; have hZ2 := sink_first hZ1 hg2; obtain ⟨x0, x1⟩ := hZ2.cells; have xf := hZ2.free))
    go_ret2
    obtain ⟨q1, q2, q3, q4⟩ := write_end hZ hg1 ho1 hZ1 hgc hgl hg2 hZ2
    exact ⟨_, g, c, _, _, _, rfl, q1, q2, q3, q4.1, q4.2⟩
  · go_wp2_with (first | (refine wpList_copy_bytes rfl (.tmp 10) (.tmp 11) rfl w.heap.size w.heap.size n (.slice xa n xc) xs (blank n) (heap_alloc w _).1 (blank_size n) ((ho.alloc _).src) hn h0 (by omega) (Nat.le_refl _) rfl rfl ?_; intro w1 ho1 hg1; have hZ1 := sink_copied hZ hg1; obtain ⟨y0, y1⟩ := hZ1.cells; have yf := hZ1.free; have ysz := hg1.size; have hzl1 := hZ1.lt) | (at_builtin; refine wpList_append_first rfl (.tmp 17) (.tmp 19) rfl ⟨w1.heap.size, 0, none⟩ (some ⟨w.heap.size, 0, none⟩) n n rfl rfl (cell_one_new w1 _ 22 0 _ rfl) ?_; intro g c w2 hgc hgl hg2; have hZ2 := sink_first hZ1 hg2; obtain ⟨x0, x1⟩ := hZ2.cells; have xf := hZ2.free))
    go_quiet (fail)
    go_wp2
    go_ret2
    obtain ⟨q1, q2, q3, q4⟩ := write_end hZ hg1 ho1 hZ1 hgc hgl hg2 hZ2
    refine ⟨_, g, c, _, _, _, rfl, q1, q2, q3, q4.1, ?_⟩
    exact ⟨q4.2.os, q4.2.tape, q4.2.output, q4.2.size, q4.2.block⟩
end Go.Proofs.Ybulkpcm
