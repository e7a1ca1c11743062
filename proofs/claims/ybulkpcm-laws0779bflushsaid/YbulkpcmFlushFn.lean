/-
  THE CONTRACT of flush (14).
-/
import Derived.Test.YbulkpcmWrite
import Derived.Deep.RegionWith
namespace Go.Proofs.Ybulkpcm
open Go.RowKit Go.MapKept

theorem Own.cut {w : World} {B : Nat} {a : Option Addr} {n c : Nat} {xs : List Int} (h : Own w B (.slice a n c) xs) : Own w B (.slice a 0 c) [] := by
  rcases h.cases with ⟨e, _⟩ | ⟨g, cap, cur, e, hg, hh, hl, hm, hs, _⟩
  · simp at e
    obtain ⟨rfl, rfl, rfl⟩ := e
    exact own_nil _ _
  · simp at e
    obtain ⟨rfl, rfl, rfl⟩ := e
    exact ⟨rfl, .inr ⟨g, c, cur, rfl, hg, hh, Nat.zero_le _, hm, by omega, by simp [ints]⟩⟩

section
variable {w w1 : World} {B J : Nat} {dst buf err : Value} {ind : Bool} {d : Int} {emp : Bool} {pad : Value} {bs ps : List Int}
/-- 'w.err = v'. -/
theorem JW.setErr (h : JW w B J dst buf err ind d emp pad bs ps) (v : Value) : JW (w.setCell ⟨J, 2, none⟩ v) B J dst buf v ind d emp pad bs ps := by
  have hk : ∀ k, k ≠ J → (w.setCell ⟨J, 2, none⟩ v).heap[k]? = w.heap[k]? := fun k hk => Below.heap_setCell _ _ _ _ hk
  exact ⟨setCell_blk w J 2 _ h.blk, h.ob.kept (fun k e => hk k (fun c => h.buf_ne (c ▸ e))), h.op.kept (fun k e => hk k (fun c => h.pad_ne (c ▸ e))), h.ne⟩

/-- 'w.buf = w.buf[:0]'. -/
theorem JW.cut {ba : Option Addr} {bn bc : Nat} (h : JW w B J dst (.slice ba bn bc) err ind d emp pad bs ps) : JW (w.setCell ⟨J, 1, none⟩ (.slice ba 0 bc)) B J dst (.slice ba 0 bc) err ind d emp pad [] ps := by
  have hk : ∀ k, k ≠ J → (w.setCell ⟨J, 1, none⟩ (.slice ba 0 bc)).heap[k]? = w.heap[k]? := fun k hk => Below.heap_setCell _ _ _ _ hk
  have he : (Value.slice ba 0 bc).ownBlock = (Value.slice ba bn bc).ownBlock := by cases ba <;> rfl
  exact ⟨setCell_blk w J 1 _ h.blk, h.ob.cut.kept (fun k e => hk k (fun c => h.buf_ne (c ▸ he ▸ e))), h.op.kept (fun k e => hk k (fun c => h.pad_ne (c ▸ e))), fun k e => h.ne k (he ▸ e)⟩

theorem Stp.cut (w : World) (J : Nat) (ba : Option Addr) (bn bc : Nat) (pad : Value) : Stp w (w.setCell ⟨J, 1, none⟩ (.slice ba 0 bc)) J (.slice ba bn bc) pad (.slice ba 0 bc) pad := by
  have he : (Value.slice ba 0 bc).ownBlock = (Value.slice ba bn bc).ownBlock := by cases ba <;> rfl
  exact ⟨Fr.setCell (S := Mine J (.slice ba bn bc) pad) w _ _ (.inl rfl), fun k e => .inl (he ▸ e), fun k e => .inl e⟩

/-- The sink is none of the writer's own blocks. -/
theorem JW.not_sink (h : JW w B J dst buf err ind d emp pad bs ps) {Z : Nat} {got fail : Value} (hZ : Sink w Z got fail) {k : Nat} (hk : Mine J buf pad k) : k ≠ Z := by
  intro e
  subst e
  unfold Sink at hZ
  rcases hk with rfl | hk | hk
  · rw [h.blk] at hZ; simp at hZ
  · rcases h.ob.cases with ⟨rfl, _⟩ | ⟨g, cap, cur, rfl, _, hg, _⟩
    · cases hk
    · simp [Value.ownBlock] at hk; subst hk; rw [hg] at hZ; simp at hZ
  · rcases h.op.cases with ⟨rfl, _⟩ | ⟨g, cap, cur, rfl, _, hg, _⟩
    · cases hk
    · simp [Value.ownBlock] at hk; subst hk; rw [hg] at hZ; simp at hZ
end

set_option maxRecDepth 100000 in
set_option maxHeartbeats 1000000 in
theorem flush_pre (B J : Nat) (dt : TypeId) (dv : Value) (ba : Option Addr) (bn bc : Nat) (et : TypeId) (ev : Value) (ind : Bool) (d : Int) (emp : Bool) (pad : Value) (bs ps : List Int) (w : World)
    (h : JW w B J (.iface dt dv) (.slice ba bn bc) (.iface et ev) ind d emp pad bs ps) :
    Calls Yba.prog 14 #[.pointer (some ⟨J, 0, none⟩)] w fun e w' => e = .returned (.tuple #[]) ∧ JW w' B J (.iface dt dv) (.slice ba 0 bc) (.iface et ev) ind d emp pad [] ps ∧ Stp w w' J (.slice ba bn bc) pad (.slice ba 0 bc) pad := by
  obtain ⟨c0, c1, c2, c3, c4, c5, c6⟩ := h.cells
  have hf := h.free 1
  go_enter Yba.func14, Yba.ntmps14
  go_wp2
  go_end0
  exact ⟨rfl, h.cut, Stp.cut _ _ _ _ _ _⟩

theorem method_write (a : Addr) (w : World) : (method 279 35 (.pointer (some a)) "Write").run Yba.prog w = .ok (32, .pointer (some a)) w := by kernel_rfl

/-- What a flush leaves of the sink, and what it may turn. -/
structure Flushed (w w' : World) (Z : Nat) (fail : Value) (bs : List Int) (S : Nat → Prop) : Prop where
  out : ∃ g cg ca cn cc, Sink w' Z (.slice (some ⟨g, 0, none⟩) 1 cg) fail ∧ w'.cell? ⟨g, 0, none⟩ = some (.slice ca cn cc) ∧ Own w' w.heap.size (.slice ca cn cc) bs ∧ w.heap.size ≤ g
  fr : Fr w w' (fun k => k = Z ∨ S k)

theorem Flushed.setCell {w w' : World} {Z : Nat} {fail : Value} {bs : List Int} {S : Nat → Prop} (h : Flushed w w' Z fail bs S) {J : Nat} (o : Nat) (v : Value) (hJ : J < w.heap.size) (hZ : J ≠ Z) (hS : S J) : Flushed w (w'.setCell ⟨J, o, none⟩ v) Z fail bs S := by
  obtain ⟨⟨g, cg, ca, cn, cc, h1, h2, h3, h4⟩, hf⟩ := h
  have hk : ∀ k, k ≠ J → (w'.setCell ⟨J, o, none⟩ v).heap[k]? = w'.heap[k]? := fun k hk => Below.heap_setCell _ _ _ _ hk
  refine ⟨⟨g, cg, ca, cn, cc, h1.kept (hk Z (fun e => hZ e.symm)), ?_, h3.kept (fun k e => hk k ?_), h4⟩, hf.trans (Fr.setCell (S := fun k => k = Z ∨ S k) w' _ _ (.inr hS)) (fun _ _ s => s)⟩
  · rw [World.cell?_of_block (w := w') (hk g (by omega))]; exact h2
  · have := (h3.lt e).1
    omega

set_option maxRecDepth 100000 in
set_option maxHeartbeats 1000000 in
theorem flush_go (B J Z : Nat) (fail : Value) (ba : Option Addr) (bn bc : Nat) (ind : Bool) (d : Int) (emp : Bool) (pad : Value) (bs ps : List Int) (w : World) (hbn : bs.length = bn) (h0 : 0 < bn) (hm : bn ≤ 100000)
    (hf : fail = .nilIface ∨ ∃ t x, fail = .iface t x) (hZ : Sink w Z (.slice none 0 0) fail)
    (h : JW w B J (.iface 35 (.pointer (some ⟨Z, 0, none⟩))) (.slice ba bn bc) .nilIface ind d emp pad bs ps) :
    Calls Yba.prog 14 #[.pointer (some ⟨J, 0, none⟩)] w fun e w' => e = .returned (.tuple #[]) ∧ JW w' B J (.iface 35 (.pointer (some ⟨Z, 0, none⟩))) (.slice ba 0 bc) fail ind d emp pad [] ps ∧ Flushed w w' Z fail bs (Mine J (.slice ba bn bc) pad) := by
  obtain ⟨c0, c1, c2, c3, c4, c5, c6⟩ := h.cells
  have hmw := method_write ⟨Z, 0, none⟩
  rcases hf with rfl | ⟨ft, fx, rfl⟩
  all_goals
    go_enter Yba.func14, Yba.ntmps14
    go_wp2
    go_region_with (go_at_call 32; refine (write_any B Z _ (.slice ba bn bc) bs bn w.drew hZ h.ob hbn h0 hm (by first | exact .inl rfl | exact .inr ⟨_, _, rfl⟩)).mono ?_; rintro e w4 ⟨k, g, cg, ca, cn, cc, rfl, s1, s2, s3, s4, s5⟩; have hj4 := h.kept (w1 := w4) (fun k hk hM => s5.block k hk (h.not_sink hZ hM)); obtain ⟨b0, b1, b2, b3, b4, b5, b6⟩ := hj4.cells; have bf := hj4.free)
    all_goals
      go_wp2
      go_end0
      refine ⟨rfl, (hj4.setErr _).cut, ?_⟩
      have hne : J ≠ Z := h.not_sink hZ (.inl rfl)
      have hfl : Flushed w w4 Z _ bs (Mine J (.slice ba bn bc) pad) := ⟨⟨g, cg, ca, cn, cc, s1, s2, s3, s4⟩, ⟨s5.os, s5.tape, s5.output, s5.size, fun k hk hS => s5.block k hk (fun e => hS (.inl e))⟩⟩
      exact (hfl.setCell 2 _ h.lt hne (.inl rfl)).setCell 1 _ h.lt hne (.inl rfl)
end Go.Proofs.Ybulkpcm
