/-
  SMALL FACTS FOR THE LAW Flush (no walk here, but errors compared).
-/
import Derived.Test.YbulkpcmMemberF
import Derived.LaidEql
namespace Go.Proofs.Ybulkpcm
open Go.RowKit Go.MapKept

/-- flushSize. -/
def bigN : Nat := 65536
theorem bigN_eq : bigN = 65536 := rfl
/-- The bytes of 'make([]byte, flushSize)'. -/
def zl : List Int := List.replicate bigN 0
theorem zl_length : zl.length = bigN := List.length_replicate

theorem makeFS (w : World) : (Instr.makeSlice 22 (.int .i64 65536) (.int .i64 65536)).run Yba.prog w = .ok (.slice (some ⟨w.heap.size, 0, none⟩) bigN bigN) (w.alloc (.cells (blank bigN) 5)) :=
  make22' bigN (by rw [bigN_eq]; omega) w

theorem blank_ints (n : Nat) : (blank n).toList = ints (List.replicate n 0) := by
  apply List.ext_getElem?
  intro j
  by_cases hj : j < n
  · simp [blank, madeCells, ints, hj, Nat.mod_one]
  · rw [List.getElem?_eq_none (by simp [blank_size]; omega), List.getElem?_eq_none (by simp [ints]; omega)]

theorem own_blank (w : World) : Own (w.alloc (.cells (blank bigN) 5)) w.heap.size (.slice (some ⟨w.heap.size, 0, none⟩) bigN bigN) zl := by
  refine ⟨by rw [ints_length, Nat.mul_one], .inr ⟨w.heap.size, bigN, blank bigN, by rw [zl_length], Nat.le_refl _, (heap_alloc w _).1, by rw [zl_length]; exact Nat.le_refl _, by unfold maxLen; rw [bigN_eq]; omega, by rw [blank_size, Nat.mul_one], ?_⟩⟩
  rw [zl_length, Nat.mul_one, List.take_of_length_le (by rw [Array.length_toList, blank_size]; exact Nat.le_refl _), blank_ints]
  rfl

section
variable {w : World} {B : Nat} {dst vb err : Value} {ind : Bool} {d : Int} {emp : Bool} {bl : List Int}
theorem laid_old (w : World) (o1 o2 o3 o4 : Obj) (k : Nat) (hk : k < w.heap.size) : ((((w.alloc o1).alloc o2).alloc o3).alloc o4).heap[k]? = w.heap[k]? := by
  rw [(heap_alloc _ _).2 k (by simp; omega), (heap_alloc _ _).2 k (by simp; omega), (heap_alloc _ _).2 k (by simp; omega), (heap_alloc _ _).2 k hk]

theorem jw_laid (hob : Own w B vb bl) (o1 o2 o3 : Obj) : JW ((((w.alloc o1).alloc o2).alloc o3).alloc (.cells #[dst, vb, err, .bool ind, .int .i64 d, .bool emp, .slice none 0 0] 30)) B (w.heap.size + 1 + 1 + 1) dst vb err ind d emp (.slice none 0 0) bl [] := by
  refine ⟨?_, hob.kept (fun k hk => laid_old w _ _ _ _ k (hob.lt hk).2), own_nil _ _, fun k e c => by cases c⟩
  have := (heap_alloc (((w.alloc o1).alloc o2).alloc o3) (.cells #[dst, vb, err, .bool ind, .int .i64 d, .bool emp, .slice none 0 0] 30)).1
  simpa using this

theorem sink_laid (w : World) (o1 o2 o4 : Obj) (got fail : Value) : Sink ((((w.alloc o1).alloc o2).alloc (.cells #[got, fail] 38)).alloc o4) (w.heap.size + 1 + 1) got fail := by
  unfold Sink
  rw [(heap_alloc _ _).2 _ (by simp)]
  have := (heap_alloc ((w.alloc o1).alloc o2) (.cells #[got, fail] 38)).1
  simpa using this
end

theorem info71 : ∃ i, Yba.prog.info? 71 = some i ∧ i.comparable = true := by
  have h : (Yba.prog.info? 71).map (·.comparable) = some true := by kernel_rfl
  cases hi : Yba.prog.info? 71 with
  | none => rw [hi] at h; cases h
  | some i => rw [hi] at h; simp at h; exact ⟨i, rfl, h⟩
theorem info73 : ∃ i, Yba.prog.info? 73 = some i := by
  have h : (Yba.prog.info? 73).map (·.size) = some 1 := by kernel_rfl
  cases hi : Yba.prog.info? 73 with
  | none => rw [hi] at h; cases h
  | some i => exact ⟨i, rfl⟩

theorem eql28 (a : Addr) (w : World) : (binOp .eql 28 (.iface 71 (.pointer (some a))) (.iface 71 (.pointer (some a)))).run Yba.prog w = .ok (.bool true) w := by
  obtain ⟨i, hi, hc⟩ := info71
  obtain ⟨j, hj⟩ := info73
  exact run_eql_iface_ptr_same w a Yba.underlying28 Yba.underlying71 hi hc hj
theorem neq28 (a : Addr) (w : World) : (binOp .neq 28 (.iface 71 (.pointer (some a))) (.iface 71 (.pointer (some a)))).run Yba.prog w = .ok (.bool false) w := by
  obtain ⟨i, hi, hc⟩ := info71
  obtain ⟨j, hj⟩ := info73
  have h := run_equalIn_iface_ptr_same (P := Yba.prog) w 9998 a Yba.underlying28 Yba.underlying71 hi hc hj
  simp only [binOp]
  simp [Op.equal, Op.maxDepth, h]

section
variable {w w3 w5 : World} {B : Nat} {o1 o2 o3 o4 : Obj} {S : Nat → Prop}
theorem own_past {v : Value} {xs : List Int} (h : Own w3 B v xs) (hfr : Fr ((((w3.alloc o1).alloc o2).alloc o3).alloc o4) w5 S) (hS : ∀ k, v.ownBlock = some k → ¬ S k) : Own w5 B v xs :=
  h.kept (fun k hk => by
    have := (h.lt hk).2
    rw [hfr.block k (by simp; omega) (hS k hk), laid_old w3 _ _ _ _ k this])

theorem below_past (hB3 : Below B w w3) (hB : B ≤ w3.heap.size) (hfr : Fr ((((w3.alloc o1).alloc o2).alloc o3).alloc o4) w5 S) (hS : ∀ k, S k → B ≤ k) : Below B w w5 :=
  ((((hB3.alloc hB _).alloc (by simp; omega) _).alloc (by simp; omega) _).alloc (by simp; omega) _).trans (hfr.toBelow (by simp; omega) hS)

theorem sink_past {got fail : Value} (hfr : Fr ((((w3.alloc o1).alloc o2).alloc (.cells #[got, fail] 38)).alloc o4) w5 S) (hS : ¬ S (w3.heap.size + 1 + 1)) : Sink w5 (w3.heap.size + 1 + 1) got fail :=
  (sink_laid w3 o1 o2 o4 got fail).kept (hfr.block _ (sink_laid w3 o1 o2 o4 got fail).lt hS)
end

theorem hz7 {w6 w7 : World} {Z : Nat} {got fail v : Value} (h : Sink w6 Z got fail) (hg : w6.grownBy w7 v.ownBlock) (hn : ∀ k, v.ownBlock = some k → k ≠ Z) : Sink w7 Z got fail :=
  h.kept (hg.block _ h.lt (fun e => hn _ e.symm rfl))
end Go.Proofs.Ybulkpcm
