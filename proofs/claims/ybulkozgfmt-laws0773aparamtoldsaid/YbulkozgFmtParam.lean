import Derived.Test.YbulkozgFmtFmt
import Derived.Test.YbulkozgFmtLocks
import Derived.Test.YbulkozgFmtBool
import Derived.Test.YbulkozgFmtMap
import Derived.Test.YbulkozgFmtWith
import Derived.Conc.RwLone
/-!
(*container).Param: its three ways.
-/
namespace Go.Proofs.YbulkozgFmt
open Go.RowKit Go.RwLone Go.Extern.Stop Go.Stop Go.Extern

/-- Nothing that was there has turned, but in block C. -/
structure Mild (C : Nat) (w w' : World) : Prop where
  os : w'.os = w.os
  tape : w'.tape = w.tape
  output : w'.output = w.output
  size : w.heap.size ≤ w'.heap.size
  block : ∀ k, k < w.heap.size → k ≠ C → w'.heap[k]? = w.heap[k]?

theorem Mild.cell {C : Nat} {w w' : World} (h : Mild C w w') {a : Addr} {v : Value} (hc : w.cell? a = some v) (hn : a.block ≠ C) : w'.cell? a = some v := by
  rw [World.cell?_of_block (w := w) (h.block a.block (World.block_lt_of_cell? _ _ hc) hn)]; exact hc

/-- A container at block C: its lock is free, its state is v, its parameters are the map at mb. -/
structure Cont (w : World) (C : Nat) (v : Int) (mb : Nat) : Prop where
  obj : ∃ x1 x2 x5 x6 x9 x10 x11 x12, w.heap[C]? = some (.cells #[.int .i32 0, x1, x2, .int .u32 0, .int .i32 0, x5, x6, .int .u32 v, .map (some mb), x9, x10, x11, x12] 46 (0, 0))

theorem wr1 : wrap32 (0 + 1) = 1 := by kernel_rfl
theorem wr0 : wrap32 (1 + -1) = 0 := by kernel_rfl

theorem rlock_at (C : Nat) (x0 x3 : Value) (w : World) (c0 : w.cell? ⟨C, 0, none⟩ = some x0) (c3 : w.cell? ⟨C, 3, none⟩ = some x3) (c4 : w.cell? ⟨C, 4, none⟩ = some (.int .i32 0)) (z4 : w.frozen? ⟨C, 4, none⟩ = false) :
    Calls Ybaf.prog 14 #[.pointer (some ⟨C, 0, none⟩)] w fun e w' => e = .returned (.tuple #[]) ∧ w' = w.setCell ⟨C, 4, none⟩ (.int .i32 1) :=
  (rlock_open Ybaf.rwRLib C 0 0 x0 x3 w c0 c3 c4 z4 (by rw [wr1]; decide)).mono fun _ _ ⟨h1, h2⟩ => ⟨h1, by rw [h2, wr1]⟩

theorem runlock_at (C : Nat) (x0 x2 : Value) (u : FrameMode) (w : World) (c0 : w.cell? ⟨C, 0, none⟩ = some x0) (c2 : w.cell? ⟨C, 2, none⟩ = some x2) (c4 : w.cell? ⟨C, 4, none⟩ = some (.int .i32 1)) (z4 : w.frozen? ⟨C, 4, none⟩ = false) :
    CallsD Ybaf.prog 15 #[.pointer (some ⟨C, 0, none⟩)] u w fun e u' w' => u' = u ∧ (e = .returned (.tuple #[]) ∧ w' = w.setCell ⟨C, 4, none⟩ (.int .i32 0)) :=
  (runlock_deferred Ybaf.rwRLib C 0 1 x0 x2 u w c0 c2 c4 z4 (by rw [wr0]; decide)).mono fun _ _ _ ⟨h0, h1, h2⟩ => ⟨h0, h1, by rw [h2, wr0]⟩

theorem Ybaf.zero20 (w : World) : (zeroValue 20).run Ybaf.prog w = .ok .nilIface w := by kernel_rfl

/-- The container's cells. -/
theorem Cont.cells {w : World} {C : Nat} {v : Int} {mb : Nat} (h : Cont w C v mb) : ∃ x2, w.cell? ⟨C, 0, none⟩ = some (.int .i32 0) ∧ w.cell? ⟨C, 2, none⟩ = some x2 ∧ w.cell? ⟨C, 3, none⟩ = some (.int .u32 0) ∧ w.cell? ⟨C, 4, none⟩ = some (.int .i32 0) ∧
    w.cell? ⟨C, 7, none⟩ = some (.int .u32 v) ∧ w.cell? ⟨C, 8, none⟩ = some (.map (some mb)) ∧ w.frozen? ⟨C, 4, none⟩ = false := by
  obtain ⟨x1, x2, x5, x6, x9, x10, x11, x12, h⟩ := h.obj
  refine ⟨x2, ?_, ?_, ?_, ?_, ?_, ?_, ?_⟩ <;> simp [World.cell?, World.frozen?, h]

theorem KMap.ne_cont {w : World} {C : Nat} {v : Int} {mb mb' : Nat} {s : ByteArray} {o : Option Value} (h : Cont w C v mb) (hm : KMap w mb' s o) : mb' ≠ C := by
  obtain ⟨x1, x2, x5, x6, x9, x10, x11, x12, h⟩ := h.obj
  obtain ⟨es, c, h2, _⟩ := hm
  intro e; subst e; rw [h] at h2; cases h2

theorem mild_setCell (C : Nat) (o : Nat) (v : Value) (w : World) : Mild C w (w.setCell ⟨C, o, none⟩ v) :=
  ⟨rfl, rfl, rfl, by simp, fun k _ hk => Below.heap_setCell _ _ _ _ hk⟩
theorem Mild.trans {C : Nat} {a b c : World} (h : Mild C a b) (k : Mild C b c) : Mild C a c :=
  ⟨k.os.trans h.os, k.tape.trans h.tape, k.output.trans h.output, Nat.le_trans h.size k.size, fun i hi hn => (k.block i (Nat.lt_of_lt_of_le hi h.size) hn).trans (h.block i hi hn)⟩
theorem Mild.refl (C : Nat) (w : World) : Mild C w w := ⟨rfl, rfl, rfl, Nat.le_refl _, fun _ _ _ => rfl⟩
theorem Mild.alloc {C : Nat} {a b : World} (h : Mild C a b) (o : Obj) : Mild C a (b.alloc o) :=
  ⟨h.os, h.tape, h.output, Nat.le_trans h.size (by simp), fun k hk hn => by rw [Below.heap_alloc _ _ _ (Nat.lt_of_lt_of_le hk h.size)]; exact h.block k hk hn⟩
theorem Mild.drew {C : Nat} {a b : World} (h : Mild C a b) : Mild C a b.drew := ⟨h.os, h.tape, h.output, h.size, h.block⟩

theorem param_found (C mb : Nat) (s : ByteArray) (z : Int) (w : World) (hC : Cont w C 0 mb) (hm : KMap w mb s (some (.iface 3 (.int .i64 z)))) :
    Calls Ybaf.prog 10 #[.pointer (some ⟨C, 0, none⟩), .string s] w fun e w' => e = .returned (.tuple #[.iface 3 (.int .i64 z), .nilIface]) ∧ Mild C w w' := by
  obtain ⟨x2, c0, c2, c3, c4, c7, c8, z4⟩ := hC.cells
  have hne := KMap.ne_cont hC hm
  have d0 : (w.setCell ⟨C, 4, none⟩ (.int .i32 1)).cell? ⟨C, 0, none⟩ = some (.int .i32 0) := (World.cell?_setCell_other _ ⟨C, 4, none⟩ ⟨C, 0, none⟩ _ (by simp)).trans c0
  have d2 : (w.setCell ⟨C, 4, none⟩ (.int .i32 1)).cell? ⟨C, 2, none⟩ = some x2 := (World.cell?_setCell_other _ ⟨C, 4, none⟩ ⟨C, 2, none⟩ _ (by simp)).trans c2
  have d4 : (w.setCell ⟨C, 4, none⟩ (.int .i32 1)).cell? ⟨C, 4, none⟩ = some (.int .i32 1) := World.cell?_setCell_same w _ _ c4
  have d7 : (w.setCell ⟨C, 4, none⟩ (.int .i32 1)).cell? ⟨C, 7, none⟩ = some (.int .u32 0) := (World.cell?_setCell_other _ ⟨C, 4, none⟩ ⟨C, 7, none⟩ _ (by simp)).trans c7
  have d8 : (w.setCell ⟨C, 4, none⟩ (.int .i32 1)).cell? ⟨C, 8, none⟩ = some (.map (some mb)) := (World.cell?_setCell_other _ ⟨C, 4, none⟩ ⟨C, 8, none⟩ _ (by simp)).trans c8
  have hm1 : KMap (w.setCell ⟨C, 4, none⟩ (.int .i32 1)) mb s (some (.iface 3 (.int .i64 z))) := hm.kept (Below.heap_setCell _ _ _ _ hne)
  have hl := hm1.look (P := Ybaf.prog) (t := 24) Ybaf.underlying24 Ybaf.underlying9 (Ybaf.zero20 _)
  go_enter_defers Ybaf.func10, Ybaf.ntmps10
  go_wp2_with (first
    | (go_at_call 14; refine (rlock_at C _ _ _ c0 c3 c4 z4).mono ?_; rintro e w' ⟨rfl, rfl⟩)
    | (go_at_call 16; refine (load_closed C 7 0 _ d7).mono ?_; rintro e w' ⟨rfl, rfl⟩))
  refine leaves_cons (f := 15) (args := #[.pointer (some ⟨C, 0, none⟩)]) (by simp) (by simp [go_sem]) ?_
  refine (runlock_at C _ _ .returning _ d0 d2 d4 (by simp [z4])).mono ?_
  rintro e u' w'' ⟨rfl, rfl, rfl⟩
  exact ⟨_, results_tmp2 rfl _ _ _, rfl, (mild_setCell C 4 _ w).trans (mild_setCell C 4 _ _)⟩

/-- What an error of Param's is: a new *fmt.wrapError at pb over the sentinel. -/
def Failed (C : Nat) (a : Addr) (w : World) (e : Ending) (w' : World) : Prop :=
  ∃ pb, e = .returned (.tuple #[.nilIface, .iface 118 (.pointer (some ⟨pb, 0, none⟩))]) ∧ Mild C w w' ∧ w'.cell? ⟨pb, 0 + 1, none⟩ = some (.iface 133 (.pointer (some a)))

set_option maxHeartbeats 800000 in
theorem param_closed (F : Interp) (C mb : Nat) (s t : ByteArray) (a : Addr) (w : World) (hF : F.answers w.tape) (hC : Cont w C 1 mb)
    (hg : w.cell? ⟨1, 0, none⟩ = some (.iface 133 (.pointer (some a)))) (hg1 : 1 < C) (ha : w.cell? a = some (.string t)) (hac : a.block < C) :
    Calls Ybaf.prog 10 #[.pointer (some ⟨C, 0, none⟩), .string s] w (Failed C a w) := by
  obtain ⟨x2, c0, c2, c3, c4, c7, c8, z4⟩ := hC.cells
  have hCl : C < w.heap.size := World.block_lt_of_cell? _ _ c0
  have m1 := mild_setCell C 4 (.int .i32 1) w
  have d0 : (w.setCell ⟨C, 4, none⟩ (.int .i32 1)).cell? ⟨C, 0, none⟩ = some (.int .i32 0) := (World.cell?_setCell_other _ ⟨C, 4, none⟩ ⟨C, 0, none⟩ _ (by simp)).trans c0
  have d2 : (w.setCell ⟨C, 4, none⟩ (.int .i32 1)).cell? ⟨C, 2, none⟩ = some x2 := (World.cell?_setCell_other _ ⟨C, 4, none⟩ ⟨C, 2, none⟩ _ (by simp)).trans c2
  have d4 : (w.setCell ⟨C, 4, none⟩ (.int .i32 1)).cell? ⟨C, 4, none⟩ = some (.int .i32 1) := World.cell?_setCell_same w _ _ c4
  have d7 : (w.setCell ⟨C, 4, none⟩ (.int .i32 1)).cell? ⟨C, 7, none⟩ = some (.int .u32 1) := (World.cell?_setCell_other _ ⟨C, 4, none⟩ ⟨C, 7, none⟩ _ (by simp)).trans c7
  have dg : (w.setCell ⟨C, 4, none⟩ (.int .i32 1)).cell? ⟨1, 0, none⟩ = some (.iface 133 (.pointer (some a))) := m1.cell hg (Nat.ne_of_lt hg1)
  have da : (w.setCell ⟨C, 4, none⟩ (.int .i32 1)).cell? a = some (.string t) := m1.cell ha (Nat.ne_of_lt hac)
  go_enter_defers Ybaf.func10, Ybaf.ntmps10
  go_wp2_with (first
    | (go_at_call 14; refine (rlock_at C _ _ _ c0 c3 c4 z4).mono ?_; rintro e w' ⟨rfl, rfl⟩)
    | (go_at_call 16; refine (load_closed C 7 1 _ d7).mono ?_; rintro e w' ⟨rfl, rfl⟩)
    | (go_at_call 17; refine (errorf_n F s t w.heap.size a _ ?_ ?_ ?_ ?_).mono ?_; (· exact hF); (· go_simp); (· go_simp); (· exact cell_alloc_of da _); rintro e w' ⟨rfl, rfl⟩))
  refine leaves_cons (f := 15) (args := #[.pointer (some ⟨C, 0, none⟩)]) (by simp) (by simp [go_sem]) ?_
  refine (runlock_at C (.int .i32 0) x2 .returning _ ?_ ?_ ?_ ?_).mono ?_
  · exact cell_alloc_of (cell_alloc_of d0 _) _
  · exact cell_alloc_of (cell_alloc_of d2 _) _
  · exact cell_alloc_of (cell_alloc_of d4 _) _
  · show World.frozen? (World.alloc _ _) _ = false
    rw [World.frozen?_alloc_old _ _ _ (by simp; omega), World.frozen?_alloc_old _ _ _ (by simp; omega)]; simp [z4]
  rintro e u' w'' ⟨rfl, rfl, rfl⟩
  refine ⟨_, results_tmp2 rfl _ _ _, w.heap.size + 1, ?_, ?_, ?_⟩
  · simp
  · exact ((m1.alloc _).alloc _).drew.trans (mild_setCell C 4 _ _)
  · rw [World.cell?_setCell_other _ _ _ _ (by simp)]
    go_simp

set_option maxHeartbeats 800000 in
theorem param_absent (F : Interp) (C mb : Nat) (s t : ByteArray) (a : Addr) (w : World) (hF : F.answers w.tape) (hC : Cont w C 0 mb) (hm : KMap w mb s none)
    (hg : w.cell? ⟨0, 0, none⟩ = some (.iface 133 (.pointer (some a)))) (hg1 : 0 < C) (ha : w.cell? a = some (.string t)) (hac : a.block < C) :
    Calls Ybaf.prog 10 #[.pointer (some ⟨C, 0, none⟩), .string s] w (Failed C a w) := by
  obtain ⟨x2, c0, c2, c3, c4, c7, c8, z4⟩ := hC.cells
  have hCl : C < w.heap.size := World.block_lt_of_cell? _ _ c0
  have m1 := mild_setCell C 4 (.int .i32 1) w
  have d0 : (w.setCell ⟨C, 4, none⟩ (.int .i32 1)).cell? ⟨C, 0, none⟩ = some (.int .i32 0) := (World.cell?_setCell_other _ ⟨C, 4, none⟩ ⟨C, 0, none⟩ _ (by simp)).trans c0
  have d2 : (w.setCell ⟨C, 4, none⟩ (.int .i32 1)).cell? ⟨C, 2, none⟩ = some x2 := (World.cell?_setCell_other _ ⟨C, 4, none⟩ ⟨C, 2, none⟩ _ (by simp)).trans c2
  have d4 : (w.setCell ⟨C, 4, none⟩ (.int .i32 1)).cell? ⟨C, 4, none⟩ = some (.int .i32 1) := World.cell?_setCell_same w _ _ c4
  have d7 : (w.setCell ⟨C, 4, none⟩ (.int .i32 1)).cell? ⟨C, 7, none⟩ = some (.int .u32 0) := (World.cell?_setCell_other _ ⟨C, 4, none⟩ ⟨C, 7, none⟩ _ (by simp)).trans c7
  have dg : (w.setCell ⟨C, 4, none⟩ (.int .i32 1)).cell? ⟨0, 0, none⟩ = some (.iface 133 (.pointer (some a))) := m1.cell hg (Nat.ne_of_lt hg1)
  have da : (w.setCell ⟨C, 4, none⟩ (.int .i32 1)).cell? a = some (.string t) := m1.cell ha (Nat.ne_of_lt hac)
  have d8 : (w.setCell ⟨C, 4, none⟩ (.int .i32 1)).cell? ⟨C, 8, none⟩ = some (.map (some mb)) := (World.cell?_setCell_other _ ⟨C, 4, none⟩ ⟨C, 8, none⟩ _ (by simp)).trans c8
  have hm1 : KMap (w.setCell ⟨C, 4, none⟩ (.int .i32 1)) mb s none := hm.kept (Below.heap_setCell _ _ _ _ (KMap.ne_cont hC hm))
  have hl := hm1.look (P := Ybaf.prog) (t := 24) Ybaf.underlying24 Ybaf.underlying9 (Ybaf.zero20 _)
  go_enter_defers Ybaf.func10, Ybaf.ntmps10
  go_wp2_with (first
    | (go_at_call 14; refine (rlock_at C _ _ _ c0 c3 c4 z4).mono ?_; rintro e w' ⟨rfl, rfl⟩)
    | (go_at_call 16; refine (load_closed C 7 0 _ d7).mono ?_; rintro e w' ⟨rfl, rfl⟩)
    | (go_at_call 17; refine (errorf_n F s t w.heap.size a _ ?_ ?_ ?_ ?_).mono ?_; (· exact hF); (· go_simp); (· go_simp); (· exact cell_alloc_of da _); rintro e w' ⟨rfl, rfl⟩))
  refine leaves_cons (f := 15) (args := #[.pointer (some ⟨C, 0, none⟩)]) (by simp) (by simp [go_sem]) ?_
  refine (runlock_at C (.int .i32 0) x2 .returning _ ?_ ?_ ?_ ?_).mono ?_
  · exact cell_alloc_of (cell_alloc_of d0 _) _
  · exact cell_alloc_of (cell_alloc_of d2 _) _
  · exact cell_alloc_of (cell_alloc_of d4 _) _
  · show World.frozen? (World.alloc _ _) _ = false
    rw [World.frozen?_alloc_old _ _ _ (by simp; omega), World.frozen?_alloc_old _ _ _ (by simp; omega)]; simp [z4]
  rintro e u' w'' ⟨rfl, rfl, rfl⟩
  refine ⟨_, results_tmp2 rfl _ _ _, w.heap.size + 1, ?_, ?_, ?_⟩
  · simp
  · exact ((m1.alloc _).alloc _).drew.trans (mild_setCell C 4 _ _)
  · rw [World.cell?_setCell_other _ _ _ _ (by simp)]
    go_simp

end Go.Proofs.YbulkozgFmt
