/-
  THE WRITER IN MEMORY: its seven cells, its two rows of bytes; what a step of it may turn (no walk here).
-/
import Derived.Test.YbulkpcmBytes
namespace Go.Proofs.Ybulkpcm
open Go.RowKit Go.MapKept

/-- w' is w with new blocks, and with writes to the blocks in S alone. -/
structure Fr (w w' : World) (S : Nat → Prop) : Prop where
  os : w'.os = w.os
  tape : w'.tape = w.tape
  output : w'.output = w.output
  size : w.heap.size ≤ w'.heap.size
  block : ∀ k, k < w.heap.size → ¬ S k → w'.heap[k]? = w.heap[k]?

section
variable {w w1 w2 : World} {S T : Nat → Prop}
theorem Fr.refl (w : World) (S : Nat → Prop) : Fr w w S := ⟨rfl, rfl, rfl, Nat.le_refl _, fun _ _ _ => rfl⟩
theorem Fr.trans (h : Fr w w1 S) (k : Fr w1 w2 T) (hT : ∀ i, i < w.heap.size → T i → S i) : Fr w w2 S :=
  ⟨k.os.trans h.os, k.tape.trans h.tape, k.output.trans h.output, Nat.le_trans h.size k.size, fun i hi hS =>
    (k.block i (Nat.lt_of_lt_of_le hi h.size) (fun t => hS (hT i hi t))).trans (h.block i hi hS)⟩
theorem Fr.mono (h : Fr w w1 S) (hT : ∀ i, i < w.heap.size → S i → T i) : Fr w w1 T := ⟨h.os, h.tape, h.output, h.size, fun i hi hS => h.block i hi (fun t => hS (hT i hi t))⟩
theorem Fr.alloc (w : World) (o : Obj) (S : Nat → Prop) : Fr w (w.alloc o) S := ⟨rfl, rfl, rfl, by simp, fun k hk _ => (heap_alloc w o).2 k hk⟩
theorem Fr.drew (w : World) (S : Nat → Prop) : Fr w w.drew S := ⟨rfl, rfl, rfl, Nat.le_refl _, fun _ _ _ => rfl⟩
theorem Fr.drewN (w : World) (n : Nat) (S : Nat → Prop) : Fr w (w.drewN n) S := ⟨rfl, rfl, rfl, Nat.le_refl _, fun _ _ _ => rfl⟩
theorem Fr.setCell (w : World) (a : Addr) (v : Value) (hS : S a.block) : Fr w (w.setCell a v) S :=
  ⟨rfl, rfl, rfl, by simp [World.setCell], fun k _ hk => Below.heap_setCell _ _ _ _ (fun e => hk (e ▸ hS))⟩
theorem Fr.grown {row : Option Nat} (h : w.grownBy w1 row) (hS : ∀ k, row = some k → S k) : Fr w w1 S :=
  ⟨h.os, h.tape, h.output, h.size, fun k hk hn => h.block k hk (fun e => hn (hS k e.symm))⟩
theorem Fr.below (h : Below w.heap.size w w1) (S : Nat → Prop) : Fr w w1 S := ⟨h.os, h.tape, h.output, h.size, fun k hk _ => h.block k hk⟩
theorem Fr.toBelow {B : Nat} (h : Fr w w1 S) (hB : B ≤ w.heap.size) (hS : ∀ k, S k → B ≤ k) : Below B w w1 :=
  ⟨h.os, h.tape, h.output, h.size, fun k hk => h.block k (by omega) (fun s => by have := hS k s; omega)⟩
theorem Fr.cell (h : Fr w w1 S) {a : Addr} {u : Value} (hc : w.cell? a = some u) (hS : ¬ S a.block) : w1.cell? a = some u := by
  rw [World.cell?_of_block (w := w) (h.block a.block (World.block_lt_of_cell? _ _ hc) hS)]; exact hc
end

/-- THE WRITER AT J: 'dst', 'buf' (the bytes bs), 'err', 'indent', 'depth', 'empty', 'pad' (the bytes ps); its two rows lie apart, from B on. -/
structure JW (w : World) (B J : Nat) (dst buf err : Value) (ind : Bool) (d : Int) (emp : Bool) (pad : Value) (bs ps : List Int) : Prop where
  blk : w.heap[J]? = some (.cells #[dst, buf, err, .bool ind, .int .i64 d, .bool emp, pad] 30 (0, 0))
  ob : Own w B buf bs
  op : Own w B pad ps
  ne : ∀ k, buf.ownBlock = some k → pad.ownBlock ≠ some k

/-- What a step of the writer at J may turn. -/
def Mine (J : Nat) (buf pad : Value) (k : Nat) : Prop := k = J ∨ buf.ownBlock = some k ∨ pad.ownBlock = some k

/-- A STEP: nothing but the writer's own blocks has turned; its rows lie where they lay or in new blocks. -/
structure Stp (w w' : World) (J : Nat) (buf pad buf' pad' : Value) : Prop where
  fr : Fr w w' (Mine J buf pad)
  lb : ∀ k, buf'.ownBlock = some k → buf.ownBlock = some k ∨ w.heap.size ≤ k
  lp : ∀ k, pad'.ownBlock = some k → pad.ownBlock = some k ∨ w.heap.size ≤ k

section
variable {w w1 w2 : World} {B J : Nat} {dst buf err : Value} {ind : Bool} {d : Int} {emp : Bool} {pad : Value} {bs ps : List Int} {buf' pad' buf2 pad2 : Value}

theorem Stp.refl (w : World) (J : Nat) (buf pad : Value) : Stp w w J buf pad buf pad := ⟨Fr.refl _ _, fun _ h => .inl h, fun _ h => .inl h⟩

theorem Stp.trans (h : Stp w w1 J buf pad buf' pad') (k : Stp w1 w2 J buf' pad' buf2 pad2) : Stp w w2 J buf pad buf2 pad2 := by
  have hs := h.fr.size
  refine ⟨h.fr.trans k.fr ?_, fun i hi => ?_, fun i hi => ?_⟩
  · intro i hi hm
    rcases hm with rfl | hm | hm
    · exact .inl rfl
    · rcases h.lb i hm with e | e
      · exact .inr (.inl e)
      · omega
    · rcases h.lp i hm with e | e
      · exact .inr (.inr e)
      · omega
  · rcases k.lb i hi with e | e
    · exact h.lb i e
    · exact .inr (by omega)
  · rcases k.lp i hi with e | e
    · exact h.lp i e
    · exact .inr (by omega)

theorem JW.lt (h : JW w B J dst buf err ind d emp pad bs ps) : J < w.heap.size := (Array.getElem?_eq_some_iff.1 h.blk).1

theorem JW.buf_ne (h : JW w B J dst buf err ind d emp pad bs ps) : buf.ownBlock ≠ some J := by
  intro e
  rcases h.ob.cases with ⟨rfl, _⟩ | ⟨g, cap, cur, rfl, _, hg, _⟩
  · cases e
  · simp [Value.ownBlock] at e
    subst e
    rw [h.blk] at hg
    simp at hg

theorem JW.pad_ne (h : JW w B J dst buf err ind d emp pad bs ps) : pad.ownBlock ≠ some J := by
  intro e
  rcases h.op.cases with ⟨rfl, _⟩ | ⟨g, cap, cur, rfl, _, hg, _⟩
  · cases e
  · simp [Value.ownBlock] at e
    subst e
    rw [h.blk] at hg
    simp at hg

theorem JW.cells (h : JW w B J dst buf err ind d emp pad bs ps) :
    w.cell? ⟨J, 0, none⟩ = some dst ∧ w.cell? ⟨J, 1, none⟩ = some buf ∧ w.cell? ⟨J, 2, none⟩ = some err ∧ w.cell? ⟨J, 3, none⟩ = some (.bool ind) ∧ w.cell? ⟨J, 4, none⟩ = some (.int .i64 d) ∧
    w.cell? ⟨J, 5, none⟩ = some (.bool emp) ∧ w.cell? ⟨J, 6, none⟩ = some pad := by
  simp [World.cell?, h.blk]

theorem JW.free (h : JW w B J dst buf err ind d emp pad bs ps) (o : Nat) : w.frozen? ⟨J, o, none⟩ = false := by simp [World.frozen?, h.blk]

theorem setCell_blk (w : World) (J o : Nat) (v : Value) {c : Array Value} {t : TypeId} (h : w.heap[J]? = some (.cells c t (0, 0))) : (w.setCell ⟨J, o, none⟩ v).heap[J]? = some (.cells (c.setIfInBounds o v) t (0, 0)) := by
  simp [World.setCell, Array.getElem?_modify, h]

/-- The writer behind a step that turns other blocks alone. -/
theorem JW.kept (h : JW w B J dst buf err ind d emp pad bs ps) (hb : ∀ k, k < w.heap.size → Mine J buf pad k → w1.heap[k]? = w.heap[k]?) : JW w1 B J dst buf err ind d emp pad bs ps :=
  ⟨by rw [hb J h.lt (.inl rfl)]; exact h.blk, h.ob.kept (fun k hk => hb k (h.ob.lt hk).2 (.inr (.inl hk))), h.op.kept (fun k hk => hb k (h.op.lt hk).2 (.inr (.inr hk))), h.ne⟩

theorem JW.alloc (h : JW w B J dst buf err ind d emp pad bs ps) (o : Obj) : JW (w.alloc o) B J dst buf err ind d emp pad bs ps := h.kept (fun k hk _ => (heap_alloc w o).2 k hk)
theorem JW.drew (h : JW w B J dst buf err ind d emp pad bs ps) : JW w.drew B J dst buf err ind d emp pad bs ps := ⟨h.blk, h.ob, h.op, h.ne⟩

/-- 'w.empty = false'. -/
theorem JW.setEmpty (h : JW w B J dst buf err ind d emp pad bs ps) (e : Bool) : JW (w.setCell ⟨J, 5, none⟩ (.bool e)) B J dst buf err ind d e pad bs ps := by
  have hk : ∀ k, k ≠ J → (w.setCell ⟨J, 5, none⟩ (.bool e)).heap[k]? = w.heap[k]? := fun k hk => Below.heap_setCell _ _ _ _ hk
  exact ⟨setCell_blk w J 5 _ h.blk, h.ob.kept (fun k e => hk k (fun c => h.buf_ne (c ▸ e))), h.op.kept (fun k e => hk k (fun c => h.pad_ne (c ▸ e))), h.ne⟩

/-- 'w.buf = append(w.buf, ..)': w1 is the world behind the append. -/
theorem JW.setBuf (h : JW w B J dst buf err ind d emp pad bs ps) {v' : Value} {bs' : List Int} (ho : Own w1 B v' bs') (hg : w.grownBy w1 buf.ownBlock) (hl : v'.ownBlock = buf.ownBlock ∨ v'.ownBlock = some w.heap.size) :
    JW (w1.setCell ⟨J, 1, none⟩ v') B J dst v' err ind d emp pad bs' ps := by
  have hJ : w1.heap[J]? = w.heap[J]? := hg.block J h.lt (fun e => h.buf_ne e.symm)
  have hk : ∀ k, k ≠ J → (w1.setCell ⟨J, 1, none⟩ v').heap[k]? = w1.heap[k]? := fun k hk => Below.heap_setCell _ _ _ _ hk
  have hv : ∀ k, v'.ownBlock = some k → k ≠ J := by
    intro k e c
    subst c
    rcases hl with hl | hl
    · exact h.buf_ne (hl ▸ e)
    · rw [hl] at e
      simp at e
      have := h.lt
      omega
  refine ⟨setCell_blk w1 J 1 _ (by rw [hJ]; exact h.blk), ho.kept (fun k e => hk k (hv k e)), ?_, ?_⟩
  · refine h.op.kept (fun k e => ?_)
    rw [hk k (fun c => h.pad_ne (c ▸ e))]
    exact hg.block k (h.op.lt e).2 (fun c => h.ne k c.symm e)
  · intro k e c
    rcases hl with hl | hl
    · exact h.ne k (hl ▸ e) c
    · rw [hl] at e
      simp at e
      have := (h.op.lt c).2
      omega

theorem Stp.setBuf {v' : Value} (h : w.grownBy w1 buf.ownBlock) (hl : v'.ownBlock = buf.ownBlock ∨ v'.ownBlock = some w.heap.size) : Stp w (w1.setCell ⟨J, 1, none⟩ v') J buf pad v' pad := by
  refine ⟨(Fr.grown h (fun k e => .inr (.inl e))).trans (Fr.setCell (S := Mine J buf pad) w1 ⟨J, 1, none⟩ v' (.inl rfl)) (fun _ _ s => s), fun k e => ?_, fun k e => .inl e⟩
  rcases hl with hl | hl
  · exact .inl (hl ▸ e)
  · rw [hl] at e
    simp at e
    exact .inr (by omega)

/-- 'w.pad = append(w.pad, ..)'. -/
theorem JW.setPad (h : JW w B J dst buf err ind d emp pad bs ps) {v' : Value} {ps' : List Int} (ho : Own w1 B v' ps') (hg : w.grownBy w1 pad.ownBlock) (hl : v'.ownBlock = pad.ownBlock ∨ v'.ownBlock = some w.heap.size) :
    JW (w1.setCell ⟨J, 6, none⟩ v') B J dst buf err ind d emp v' bs ps' := by
  have hJ : w1.heap[J]? = w.heap[J]? := hg.block J h.lt (fun e => h.pad_ne e.symm)
  have hk : ∀ k, k ≠ J → (w1.setCell ⟨J, 6, none⟩ v').heap[k]? = w1.heap[k]? := fun k hk => Below.heap_setCell _ _ _ _ hk
  have hv : ∀ k, v'.ownBlock = some k → k ≠ J := by
    intro k e c
    subst c
    rcases hl with hl | hl
    · exact h.pad_ne (hl ▸ e)
    · rw [hl] at e
      simp at e
      have := h.lt
      omega
  refine ⟨setCell_blk w1 J 6 _ (by rw [hJ]; exact h.blk), ?_, ho.kept (fun k e => hk k (hv k e)), ?_⟩
  · refine h.ob.kept (fun k e => ?_)
    rw [hk k (fun c => h.buf_ne (c ▸ e))]
    exact hg.block k (h.ob.lt e).2 (fun c => h.ne k e c.symm)
  · intro k e c
    rcases hl with hl | hl
    · exact h.ne k e (hl ▸ c)
    · rw [hl] at c
      simp at c
      have := (h.ob.lt e).2
      omega

theorem Stp.setPad {v' : Value} (h : w.grownBy w1 pad.ownBlock) (hl : v'.ownBlock = pad.ownBlock ∨ v'.ownBlock = some w.heap.size) : Stp w (w1.setCell ⟨J, 6, none⟩ v') J buf pad buf v' := by
  refine ⟨(Fr.grown h (fun k e => .inr (.inr e))).trans (Fr.setCell (S := Mine J buf pad) w1 ⟨J, 6, none⟩ v' (.inl rfl)) (fun _ _ s => s), fun k e => .inl e, fun k e => ?_⟩
  rcases hl with hl | hl
  · exact .inl (hl ▸ e)
  · rw [hl] at e
    simp at e
    exact .inr (by omega)

theorem Stp.alloc (w : World) (o : Obj) (J : Nat) (buf pad : Value) : Stp w (w.alloc o) J buf pad buf pad := ⟨Fr.alloc w o _, fun _ h => .inl h, fun _ h => .inl h⟩
theorem Stp.drew (w : World) (J : Nat) (buf pad : Value) : Stp w w.drew J buf pad buf pad := ⟨Fr.drew w _, fun _ h => .inl h, fun _ h => .inl h⟩
theorem Stp.setEmpty (w : World) (J o : Nat) (v buf pad : Value) : Stp w (w.setCell ⟨J, o, none⟩ v) J buf pad buf pad := ⟨Fr.setCell (S := Mine J buf pad) w _ _ (.inl rfl), fun _ h => .inl h, fun _ h => .inl h⟩

/-- The writer's cells, asked for behind a step that turns another block. -/
theorem JW.beside (h : JW w B J dst buf err ind d emp pad bs ps) {row : Option Nat} (hg : w.grownBy w1 row) (hr : row ≠ some J) :
    w1.cell? ⟨J, 0, none⟩ = some dst ∧ w1.cell? ⟨J, 1, none⟩ = some buf ∧ w1.cell? ⟨J, 2, none⟩ = some err ∧ w1.cell? ⟨J, 3, none⟩ = some (.bool ind) ∧ w1.cell? ⟨J, 4, none⟩ = some (.int .i64 d) ∧
    w1.cell? ⟨J, 5, none⟩ = some (.bool emp) ∧ w1.cell? ⟨J, 6, none⟩ = some pad ∧ ∀ o, w1.frozen? ⟨J, o, none⟩ = false := by
  have e : w1.heap[J]? = some (.cells #[dst, buf, err, .bool ind, .int .i64 d, .bool emp, pad] 30 (0, 0)) := by
    rw [hg.block J h.lt (fun c => hr c.symm)]; exact h.blk
  simp [World.cell?, World.frozen?, e]
end
end Go.Proofs.Ybulkpcm
