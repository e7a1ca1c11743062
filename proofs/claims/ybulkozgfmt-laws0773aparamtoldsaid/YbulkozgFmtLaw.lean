import Derived.Test.YbulkozgFmtBuild
import Derived.Test.YbulkozgFmtAs
import Derived.SliceStrings
/-!
THE WALK OF LawS0773AParam.
-/
namespace Go.Proofs.YbulkozgFmt
open Go.RowKit Go.Extern.Stop Go.Stop Go.Extern Go.ChangeMaps

/-- What the map holds at the name behind the first r keys: the last value laid under it. -/
def acc (name : ByteArray) (key : Nat → ByteArray) (val : Nat → Int) : Nat → Option Int
  | 0 => none
  | r + 1 => if key r = name then some (val r) else acc name key val r

structure Inv (w wr : World) (name : ByteArray) (o : Option Int) : Prop where
  bel : Below w.heap.size w wr
  map : KMap wr w.heap.size name (o.map fun z => .iface 3 (.int .i64 z))

theorem Inv.put {w wr : World} {name : ByteArray} {o : Option Int} (h : Inv w wr name o) (k : ByteArray) (v : Int) :
    ∃ W, (Instr.mapUpdate 24 (.map (some w.heap.size)) (.string k) (.iface 3 (.int .i64 v))).run Ybaf.prog wr = .ok () W ∧ Inv w W name (if k = name then some v else o) := by
  obtain ⟨es', c', hu, hm⟩ := h.map.store (P := Ybaf.prog) (t := 24) Ybaf.underlying24 Ybaf.underlying9 k (.iface 3 (.int .i64 v))
  refine ⟨_, hu, h.bel.trans (h.map.below (Nat.le_refl _) es' c'), ?_⟩
  have : (if k = name then some v else o).map (fun z => Value.iface 3 (.int .i64 z)) = if k = name then some (.iface 3 (.int .i64 v)) else o.map fun z => .iface 3 (.int .i64 z) := by split <;> rfl
  rw [this]; exact hm

theorem Inv.made (w : World) (name : ByteArray) : Inv w (w.alloc (.map #[] 0)) name none := ⟨(Below.refl _ _).alloc (Nat.le_refl _) _, KMap.made w name⟩


/-- The container as the law lays it. -/
abbrev contObj (mb : Nat) : Obj := .cells #[.int .i32 0, .int .u32 0, .int .u32 0, .int .u32 0, .int .i32 0, .int .i32 0, .int .u32 0, .int .u32 0, .map (some mb), .map none, .slice none 0 0, .map none, .map none] 46

/-- A world behind the making of the container. -/
structure HasC (w X : World) (C : Nat) (v : Int) (name : ByteArray) (o : Option Int) : Prop where
  bel : Below w.heap.size w X
  le : w.heap.size ≤ C
  cont : Cont X C v w.heap.size
  map : KMap X w.heap.size name (o.map fun z => .iface 3 (.int .i64 z))

theorem HasC.lt {w X : World} {C : Nat} {v : Int} {name : ByteArray} {o : Option Int} (h : HasC w X C v name o) : C < X.heap.size := by
  obtain ⟨x2, c0, _⟩ := h.cont.cells
  exact World.block_lt_of_cell? _ _ c0

theorem HasC.made {w wr : World} {name : ByteArray} {o : Option Int} (h : Inv w wr name o) : HasC w (wr.alloc (contObj w.heap.size)) wr.heap.size 0 name o :=
  ⟨h.bel.alloc h.bel.size _, h.bel.size, ⟨_, _, _, _, _, _, _, _, heap_alloc_new _ _⟩, h.map.kept (Below.heap_alloc _ _ _ h.map.lt)⟩

theorem HasC.alloc {w X : World} {C : Nat} {v : Int} {name : ByteArray} {o : Option Int} (h : HasC w X C v name o) (ob : Obj) : HasC w (X.alloc ob) C v name o := by
  refine ⟨h.bel.alloc h.bel.size _, h.le, ?_, h.map.kept (Below.heap_alloc _ _ _ h.map.lt)⟩
  obtain ⟨x1, x2, x5, x6, x9, x10, x11, x12, hh⟩ := h.cont.obj
  exact ⟨x1, x2, x5, x6, x9, x10, x11, x12, by rw [Below.heap_alloc _ _ _ h.lt]; exact hh⟩

theorem HasC.closed {w X W : World} {C : Nat} {name : ByteArray} {o : Option Int} (h : HasC w X C 0 name o) (hL : Like W (X.setCell ⟨C, 7, none⟩ (.int .u32 1))) : HasC w W C 1 name o := by
  have hne := KMap.ne_cont h.cont h.map
  refine ⟨(h.bel.setCell h.le _).trans (hL.below _), h.le, ?_, h.map.kept ?_⟩
  · obtain ⟨x1, x2, x5, x6, x9, x10, x11, x12, hh⟩ := h.cont.obj
    refine ⟨x1, x2, x5, x6, x9, x10, x11, x12, ?_⟩
    rw [hL.heap]
    simp [World.setCell, Array.getElem?_modify, hh]
  · rw [hL.heap]; exact Below.heap_setCell _ _ _ _ hne

theorem HasC.absent {F : Interp} {w X : World} {C : Nat} {name t : ByteArray} {a : Addr} (h : HasC w X C 0 name none) (hF : F.answers w.tape) (hg : w.cell? ⟨0, 0, none⟩ = some (.iface 133 (.pointer (some a)))) (ha : w.cell? a = some (.string t)) :
    Calls Ybaf.prog 10 #[.pointer (some ⟨C, 0, none⟩), .string name] X (Failed C a X) :=
  param_absent F C w.heap.size name t a X (by rw [h.bel.tape]; exact hF) h.cont h.map ((h.bel.cell (cellLt hg)).trans hg) (Nat.lt_of_lt_of_le (cellLt hg) h.le) ((h.bel.cell (cellLt ha)).trans ha) (Nat.lt_of_lt_of_le (cellLt ha) h.le)

theorem HasC.shut {F : Interp} {w X : World} {C : Nat} {name t : ByteArray} {o : Option Int} {a : Addr} (h : HasC w X C 1 name o) (hF : F.answers w.tape) (hg : w.cell? ⟨1, 0, none⟩ = some (.iface 133 (.pointer (some a)))) (ha : w.cell? a = some (.string t)) :
    Calls Ybaf.prog 10 #[.pointer (some ⟨C, 0, none⟩), .string name] X (Failed C a X) :=
  param_closed F C w.heap.size name t a X (by rw [h.bel.tape]; exact hF) h.cont ((h.bel.cell (cellLt hg)).trans hg) (Nat.lt_of_lt_of_le (cellLt hg) h.le) ((h.bel.cell (cellLt ha)).trans ha) (Nat.lt_of_lt_of_le (cellLt ha) h.le)

theorem HasC.after {w X W : World} {C : Nat} {v : Int} {name : ByteArray} {o : Option Int} (h : HasC w X C v name o) (hm : Mild C X W) : Below w.heap.size w W :=
  ⟨hm.os.trans h.bel.os, hm.tape.trans h.bel.tape, hm.output.trans h.bel.output, Nat.le_trans h.bel.size hm.size,
    fun k hk => (hm.block k (Nat.lt_of_lt_of_le hk h.bel.size) (by have := h.le; omega)).trans (h.bel.block k hk)⟩

theorem neq_build (a : Addr) (w : World) : (binOp .neq 48 (.pointer (some a)) (.pointer (some a))).run Ybaf.prog w = .ok (.bool false) w := by
  have h := eql_build a w
  obtain ⟨j, hj, _⟩ := Option.map_eq_some_iff.1 Ybaf.size65
  have h : ∀ d : Nat, (Op.equalIn (d + 1) 48 (.pointer (some a)) (.pointer (some a))).run Ybaf.prog w = .ok true w := fun d => by
    simp [Op.equalIn, run_underlying Ybaf.underlying48, sizeOf, typeInfo, hj, run_sameAddr_same]
  simp only [binOp]
  simp [Op.equal, Op.maxDepth, h 9999]

theorem ta3 (v : Value) (w : World) : (Instr.typeAssert (.iface 3 v) 20 3 true).run Ybaf.prog w = .ok (.tuple #[v, .bool true]) w := by kernel_rfl
theorem ta69 (v : Value) (w : World) : (Instr.typeAssert (.iface 69 v) 62 69 true).run Ybaf.prog w = .ok (.tuple #[v, .bool true]) w := by kernel_rfl
/-- The cells of the error's path, for the law's looks. -/
theorem Path1.cells {w' : World} {N nb B : Nat} {et : TypeId} {ev : Value} (h : Path1 w' N nb B et ev) : w'.cell? ⟨N, 0, none⟩ = some (.slice (some ⟨nb, 0, none⟩) 1 1) ∧ w'.cell? ⟨N, 2, none⟩ = some (.int .i64 1) ∧ w'.cell? ⟨N, 4, none⟩ = some (.pointer (some ⟨B, 0, none⟩)) ∧ w'.cell? ⟨N, 7, none⟩ = some (.iface et ev) := by
  refine ⟨?_, ?_, ?_, ?_⟩ <;> simp [World.cell?, h.obj]
theorem Path2.cells {w' : World} {N nb B A : Nat} {et : TypeId} {ev : Value} (h : Path2 w' N nb B A et ev) : w'.cell? ⟨N, 0, none⟩ = some (.slice (some ⟨nb, 0, none⟩) 2 2) ∧ w'.cell? ⟨N, 2, none⟩ = some (.int .i64 2) ∧ w'.cell? ⟨N, 4, none⟩ = some (.pointer (some ⟨B, 0, none⟩)) ∧ w'.cell? ⟨N, 7, none⟩ = some (.iface et ev) := by
  refine ⟨?_, ?_, ?_, ?_⟩ <;> simp [World.cell?, h.obj]

theorem mk24 (w : World) : (Instr.makeMap 24 none).run Ybaf.prog w = .ok (.map (some w.heap.size)) (w.alloc (.map #[] 0)) := by kernel_rfl

theorem beq_iff (a b : ByteArray) : (a.toList == b.toList) = true ↔ a = b := by
  rw [ByteArray.toList_eq, ByteArray.toList_eq, beq_iff_eq]
  exact ⟨fun h => Go.WideShapes.bytes_inj h, fun h => by rw [h]⟩

set_option maxRecDepth 100000 in
theorem law_long (a0 : Option Addr) (len cap : Nat) (v1 v2 v3 v4 : Value) (w : World) (h : 1024 < len) :
    Calls Ybaf.prog 3 #[.slice a0 len cap, v1, v2, v3, v4] w fun e w' => e = .returned (.bool true) ∧ Below w.heap.size w w' := by
  have hc0 : (1024 : Int) < (len : Int) := by omega
  go_enter Ybaf.func3, Ybaf.ntmps3
  go_wp2
  go_ret
  exact ⟨rfl, Below.refl _ _⟩

set_option maxRecDepth 100000 in
set_option maxHeartbeats 2000000 in
theorem law_any (F : Interp) (a0 : Option Addr) (len cap : Nat) (key : Nat → ByteArray) (a1 : Option Addr) (len1 cap1 : Nat) (val : Nat → Int) (name : ByteArray) (closed nested : Bool) (w : World) (hn : len ≤ 1024)
    (hk : ∀ i, i < len → ∃ x, a0 = some x ∧ w.cell? (x.add i) = some (.string (key i)))
    (hv : ∀ i, i < len1 → ∃ y, a1 = some y ∧ w.cell? (y.add i) = some (.int .i64 (val i))) (hv0 : ∀ i, len1 ≤ i → val i = 0)
    (hF : F.answers w.tape) (p0 p1 : Addr) (t0 t1 : ByteArray) (hg0 : w.cell? ⟨0, 0, none⟩ = some (.iface 133 (.pointer (some p0)))) (ha0 : w.cell? p0 = some (.string t0))
    (hg1 : w.cell? ⟨1, 0, none⟩ = some (.iface 133 (.pointer (some p1)))) (ha1 : w.cell? p1 = some (.string t1)) (hg2 : w.cell? ⟨2, 0, none⟩ = some (.iface 99 (.agg #[.pointer (some ⟨3, 62, none⟩)]))) :
    Calls Ybaf.prog 3 #[.slice a0 len cap, .slice a1 len1 cap1, .string name, .bool closed, .bool nested] w fun e w' => e = .returned (.bool true) ∧ Below w.heap.size w w' := by
  have hc0 : decide (1024 < (len : Int)) = false := by simp; omega
  have hmk := mk24
  have hta3 := ta3
  have hta69 := ta69
  have hnb := neq_build
  go_enter Ybaf.func3, Ybaf.ntmps3
  go_wp2
  go_loopw [34, 12, 13] (fun i wv fv wr => ∃ r : Nat, r ≤ len ∧ i = .int .i64 r ∧ wv = .int .i64 ((acc name key val r).getD 0) ∧ fv = .bool (acc name key val r).isSome ∧ Inv w wr name (acc name key val r)) (fun i _ _ _ => len - (intOf i).toNat)
  case atStart => exact ⟨0, Nat.zero_le _, rfl, rfl, rfl, Inv.made w name⟩
  case round =>
    obtain ⟨r, hr, rfl, rfl, rfl, hinv⟩ := hrel
    by_cases hlt : r < len
    · obtain ⟨x, hx, hcx⟩ := hk r hlt
      subst hx
      have hcr : wr.cell? (x.add r) = some (.string (key r)) := by rw [hinv.bel.cell (World.block_lt_of_cell? _ _ hcx)]; exact hcx
      obtain ⟨W, hu, hI⟩ := hinv.put (key r) (val r)
      have hH : Hid (acc name key val (r + 1) = if key r = name then some (val r) else acc name key val r) := rfl
      by_cases hl1 : r < len1
      · obtain ⟨y, hy, hcy⟩ := hv r hl1
        subst hy
        have hcv : wr.cell? (y.add r) = some (.int .i64 (val r)) := by rw [hinv.bel.cell (World.block_lt_of_cell? _ _ hcy)]; exact hcy
        clear hk hv
        cases hkn : ((key r).toList == name.toList)
        · have hne : ¬ key r = name := fun h => by rw [(beq_iff _ _).2 h] at hkn; cases hkn
          rw [if_neg hne] at hI
          go_wp2
          go_roundw
          case rel =>
            have hA := hH.out
            rw [if_neg hne] at hA
            exact ⟨r + 1, by omega, by go_num, by rw [hA], by rw [hA], by rw [hA]; exact hI⟩
          case measure => simp [intOf]; omega
        · have he : Hid (key r = name) := (beq_iff _ _).1 hkn
          rw [if_pos he.out] at hI
          go_wp2
          go_roundw
          case rel =>
            have hA := hH.out
            rw [if_pos he.out] at hA
            exact ⟨r + 1, by omega, by go_num, by rw [hA]; rfl, by rw [hA]; rfl, by rw [hA]; exact hI⟩
          case measure => simp [intOf]; omega
      · have hz := hv0 r (by omega)
        rw [hz] at hu hI
        clear hk hv
        cases hkn : ((key r).toList == name.toList)
        · have hne : ¬ key r = name := fun h => by rw [(beq_iff _ _).2 h] at hkn; cases hkn
          rw [if_neg hne] at hI
          go_wp2
          go_roundw
          case rel =>
            have hA := hH.out
            rw [if_neg hne] at hA
            exact ⟨r + 1, by omega, by go_num, by rw [hA], by rw [hA], by rw [hA]; exact hI⟩
          case measure => simp [intOf]; omega
        · have he : Hid (key r = name) := (beq_iff _ _).1 hkn
          rw [if_pos he.out] at hI
          go_wp2
          go_roundw
          case rel =>
            have hA := hH.out
            rw [if_pos he.out, hz] at hA
            exact ⟨r + 1, by omega, by go_num, by rw [hA]; rfl, by rw [hA]; rfl, by rw [hA]; exact hI⟩
          case measure => simp [intOf]; omega
    · obtain rfl : r = len := by omega
      have hY := HasC.made hinv
      cases closed
      · cases hacc : acc name key val r with
        | none =>
          rw [hacc] at hY
          cases nested
          · go_wp2_with fail
            have hX := (hY.alloc (.cells #[.nilFunc, .bool false, .slice none 0 0, .pointer none, .pointer none, .int .i64 0] 58)).alloc (.cells #[.pointer (some ⟨wr.heap.size, 0, none⟩), .string { data := #[115] }, .pointer (some ⟨wr.heap.size + 1, 0, none⟩), .pointer none, .int .i64 0, .pointer none, .pointer none, .bool false, .nilIface, .nilIface, .slice none 0 0, .pointer none, .chan none] 65)
            refine (bparam_fail1 (wr.heap.size + 1 + 1) wr.heap.size name p0 _ (hX.absent hF hg0 ha0) (Nat.lt_of_lt_of_le (cellLt hg2) hX.le) (by omega) ((hX.bel.cell (cellLt hg2)).trans hg2) (by go_simp) (by go_simp) (by go_simp)).mono ?_
            rintro e W ⟨N, nb, pb, rfl, hm, hP, hx⟩
            have hb4 : W.cell? ⟨wr.heap.size + 1 + 1, 4, none⟩ = some (.int .i64 0) := hm.cell (by go_simp) (by simp; omega)
            have hbel := hX.after hm
            have hW0 : W.cell? ⟨0, 0, none⟩ = some (.iface 133 (.pointer (some p0))) := (hbel.cell (cellLt hg0)).trans hg0
            obtain ⟨e0, e2, e4, e7⟩ := hP.cells
            have hnode := hP.node
            clear hX hY hk hv hP hm hF
            go_wp2_with (first
              | (go_at_call 6; refine (through_one N (wr.heap.size + 1 + 1) nb _ e0 hb4 hnode).mono ?_; rintro e W' ⟨rfl, rfl⟩)
              | (go_at_call 7; refine (is_wrap_same pb 0 p0 _ hx).mono ?_; rintro e W' ⟨rfl, rfl⟩))
            go_ret
            exact ⟨rfl, hbel⟩
          · go_wp2_with fail
            have hX := (((hY.alloc (.cells #[.nilFunc, .bool false, .slice none 0 0, .pointer none, .pointer none, .int .i64 0] 58)).alloc (.cells #[.pointer (some ⟨wr.heap.size, 0, none⟩), .string { data := #[112] }, .pointer (some ⟨wr.heap.size + 1, 0, none⟩), .pointer none, .int .i64 0, .pointer none, .pointer none, .bool false, .nilIface, .nilIface, .slice none 0 0, .pointer none, .chan none] 65)).alloc (.cells #[.nilFunc, .bool false, .slice none 0 0, .pointer none, .pointer none, .int .i64 0] 58)).alloc (.cells #[.pointer (some ⟨wr.heap.size, 0, none⟩), .string { data := #[115] }, .pointer (some ⟨wr.heap.size + 1 + 1 + 1, 0, none⟩), .pointer (some ⟨wr.heap.size + 1 + 1, 0, none⟩), .int .i64 1, .pointer none, .pointer none, .bool false, .nilIface, .nilIface, .slice none 0 0, .pointer none, .chan none] 65)
            refine (bparam_fail2 (wr.heap.size + 1 + 1 + 1 + 1) (wr.heap.size + 1 + 1) wr.heap.size name p0 _ (hX.absent hF hg0 ha0) (Nat.lt_of_lt_of_le (cellLt hg2) hX.le) (by omega) (by omega) ((hX.bel.cell (cellLt hg2)).trans hg2) (by go_simp) (by go_simp) (by go_simp) (by go_simp) (by go_simp)).mono ?_
            rintro e W ⟨N, nb, pb, rfl, hm, hP, hx⟩
            have hb4 : W.cell? ⟨wr.heap.size + 1 + 1 + 1 + 1, 4, none⟩ = some (.int .i64 1) := hm.cell (by go_simp) (by simp; omega)
            have hbel := hX.after hm
            have hW0 : W.cell? ⟨0, 0, none⟩ = some (.iface 133 (.pointer (some p0))) := (hbel.cell (cellLt hg0)).trans hg0
            obtain ⟨e0, e2, e4, e7⟩ := hP.cells
            have hnode := hP.node
            have hnode2 := hP.node2
            clear hX hY hk hv hP hm hF
            go_wp2_with (first
              | (go_at_call 6; refine (through_two N (wr.heap.size + 1 + 1 + 1 + 1) nb _ e0 hb4 hnode2).mono ?_; rintro e W' ⟨rfl, rfl⟩)
              | (go_at_call 7; refine (is_wrap_same pb 0 p0 _ hx).mono ?_; rintro e W' ⟨rfl, rfl⟩))
            go_ret
            exact ⟨rfl, hbel⟩
        | some z =>
          rw [hacc] at hY
          cases nested
          · go_wp2_with (go_at_call 5; refine (bparam_found (wr.heap.size + 2) wr.heap.size w.heap.size name z _ ?_ ?_ ?_).mono ?_; (· go_simp); (· exact ((hY.alloc _).alloc _).cont); (· exact ((hY.alloc _).alloc _).map); rintro e W ⟨rfl, hm⟩)
            go_ret
            exact ⟨rfl, ((hY.alloc _).alloc _).after hm⟩
          · go_wp2_with (go_at_call 5; refine (bparam_found (wr.heap.size + 4) wr.heap.size w.heap.size name z _ ?_ ?_ ?_).mono ?_; (· go_simp); (· exact ((((hY.alloc _).alloc _).alloc _).alloc _).cont); (· exact ((((hY.alloc _).alloc _).alloc _).alloc _).map); rintro e W ⟨rfl, hm⟩)
            go_ret
            exact ⟨rfl, ((((hY.alloc _).alloc _).alloc _).alloc _).after hm⟩
      · go_wp2_with fail
        refine (store_true wr.heap.size 7 (.int .u32 0) _ (by go_simp) (by go_simp)).mono ?_
        rintro e V ⟨rfl, hL⟩
        have hVs : wr.heap.size < V.heap.size := by rw [hL.heap]; simp
        replace hY := hY.closed hL
        clear hL
        cases nested
        · go_wp2_with fail
          have hX := (hY.alloc (.cells #[.nilFunc, .bool false, .slice none 0 0, .pointer none, .pointer none, .int .i64 0] 58)).alloc (.cells #[.pointer (some ⟨wr.heap.size, 0, none⟩), .string { data := #[115] }, .pointer (some ⟨V.heap.size, 0, none⟩), .pointer none, .int .i64 0, .pointer none, .pointer none, .bool false, .nilIface, .nilIface, .slice none 0 0, .pointer none, .chan none] 65)
          refine (bparam_fail1 (V.heap.size + 1) wr.heap.size name p1 _ (hX.shut hF hg1 ha1) (Nat.lt_of_lt_of_le (cellLt hg2) hX.le) (by omega) ((hX.bel.cell (cellLt hg2)).trans hg2) (by go_simp) (by go_simp) (by go_simp)).mono ?_
          rintro e W ⟨N, nb, pb, rfl, hm, hP, hx⟩
          have hb4 : W.cell? ⟨V.heap.size + 1, 4, none⟩ = some (.int .i64 0) := hm.cell (by go_simp) (by simp; omega)
          have hbel := hX.after hm
          have hW0 : W.cell? ⟨1, 0, none⟩ = some (.iface 133 (.pointer (some p1))) := (hbel.cell (cellLt hg1)).trans hg1
          have hW1 : W.cell? ⟨0, 0, none⟩ = some (.iface 133 (.pointer (some p0))) := (hbel.cell (cellLt hg0)).trans hg0
          obtain ⟨e0, e2, e4, e7⟩ := hP.cells
          have hnode := hP.node
          clear hX hY hk hv hP hm hF
          go_wp2_with (first
            | (go_at_call 6; refine (through_one N (V.heap.size + 1) nb _ e0 hb4 hnode).mono ?_; rintro e W' ⟨rfl, rfl⟩)
            | (go_at_call 7; refine (is_wrap_same pb 0 p1 _ hx).mono ?_; rintro e W' ⟨rfl, rfl⟩))
          go_ret
          exact ⟨rfl, hbel⟩
        · go_wp2_with fail
          have hX := (((hY.alloc (.cells #[.nilFunc, .bool false, .slice none 0 0, .pointer none, .pointer none, .int .i64 0] 58)).alloc (.cells #[.pointer (some ⟨wr.heap.size, 0, none⟩), .string { data := #[112] }, .pointer (some ⟨V.heap.size, 0, none⟩), .pointer none, .int .i64 0, .pointer none, .pointer none, .bool false, .nilIface, .nilIface, .slice none 0 0, .pointer none, .chan none] 65)).alloc (.cells #[.nilFunc, .bool false, .slice none 0 0, .pointer none, .pointer none, .int .i64 0] 58)).alloc (.cells #[.pointer (some ⟨wr.heap.size, 0, none⟩), .string { data := #[115] }, .pointer (some ⟨V.heap.size + 1 + 1, 0, none⟩), .pointer (some ⟨V.heap.size + 1, 0, none⟩), .int .i64 1, .pointer none, .pointer none, .bool false, .nilIface, .nilIface, .slice none 0 0, .pointer none, .chan none] 65)
          refine (bparam_fail2 (V.heap.size + 1 + 1 + 1) (V.heap.size + 1) wr.heap.size name p1 _ (hX.shut hF hg1 ha1) (Nat.lt_of_lt_of_le (cellLt hg2) hX.le) (by omega) (by omega) ((hX.bel.cell (cellLt hg2)).trans hg2) (by go_simp) (by go_simp) (by go_simp) (by go_simp) (by go_simp)).mono ?_
          rintro e W ⟨N, nb, pb, rfl, hm, hP, hx⟩
          have hb4 : W.cell? ⟨V.heap.size + 1 + 1 + 1, 4, none⟩ = some (.int .i64 1) := hm.cell (by go_simp) (by simp; omega)
          have hbel := hX.after hm
          have hW0 : W.cell? ⟨1, 0, none⟩ = some (.iface 133 (.pointer (some p1))) := (hbel.cell (cellLt hg1)).trans hg1
          have hW1 : W.cell? ⟨0, 0, none⟩ = some (.iface 133 (.pointer (some p0))) := (hbel.cell (cellLt hg0)).trans hg0
          obtain ⟨e0, e2, e4, e7⟩ := hP.cells
          have hnode := hP.node
          have hnode2 := hP.node2
          clear hX hY hk hv hP hm hF
          go_wp2_with (first
            | (go_at_call 6; refine (through_two N (V.heap.size + 1 + 1 + 1) nb _ e0 hb4 hnode2).mono ?_; rintro e W' ⟨rfl, rfl⟩)
            | (go_at_call 7; refine (is_wrap_same pb 0 p1 _ hx).mono ?_; rintro e W' ⟨rfl, rfl⟩))
          go_ret
          exact ⟨rfl, hbel⟩
end Go.Proofs.YbulkozgFmt
