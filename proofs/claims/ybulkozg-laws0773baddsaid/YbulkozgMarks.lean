/-
  A ROW OF MARKS IN MEMORY, said of the world alone (no walk here).
-/
import Derived.Test.YbulkozgClaims
import Derived.Deep.Draws
namespace Go.Proofs.Ybulkozg
open Go.RowKit Go.MapKept Go.ChangeMaps

/-- What 'make([]pathMark, n)' lays. -/
def blanks (n : Nat) : Array Value := madeCells #[.int .i64 0, .pointer none] (n * 2)

theorem blanks_size (n : Nat) : (blanks n).size = n * 2 := size_madeCells _ _

theorem make35 (n : Nat) (h : n ≤ 1024) (w : World) : (Instr.makeSlice 35 (.int .i64 (n : Int)) (.int .i64 (n : Int))).run Yba.prog w = .ok (.slice (some ⟨w.heap.size, 0, none⟩) n n) (w.alloc (.cells (blanks n) 39)) := by
  have hi : (Yba.prog.info? 39).map (fun i => (i.zero, i.size, i.bytes)) = some (some (.agg #[.int .i64 0, .pointer none]), 2, 16) := by kernel_rfl
  obtain ⟨i, h1, h2, h3, h4⟩ := info_parts hi
  have h := run_make (P := Yba.prog) w 35 39 i _ Yba.underlying35 h1 h2 .i64 .i64 n n (by omega) (by omega) (by rw [h4]; omega) (by omega)
  rw [h3] at h
  simpa [blanks, Value.cells] using h

/-- Block b is a row of n marks: of the first i, the j-th has the place P j and the build Q j. -/
def Row (w : World) (b n i : Nat) (P : Nat → Int) (Q : Nat → Option Addr) : Prop :=
  ∃ c, w.heap[b]? = some (.cells c 39 (0, 0)) ∧ c.size = n * 2 ∧ ∀ j, j < i → j < n → c[j * 2]? = some (.int .i64 (P j)) ∧ c[j * 2 + 1]? = some (.pointer (Q j))

section
variable {w w' : World} {b n i : Nat} {P : Nat → Int} {Q : Nat → Option Addr}

theorem Row.kept (h : Row w b n i P Q) (hb : w'.heap[b]? = w.heap[b]?) : Row w' b n i P Q := by
  obtain ⟨c, h1, h2⟩ := h
  exact ⟨c, by rw [hb]; exact h1, h2⟩

theorem Row.lt (h : Row w b n i P Q) : b < w.heap.size := by
  obtain ⟨c, h1, _⟩ := h
  exact lt_of_block h1

theorem Row.below {B : Nat} (h : Row w b n i P Q) (hb : Below B w w') (hB : b < B) : Row w' b n i P Q := h.kept (hb.block b hB)

theorem Row.alloc (h : Row w b n i P Q) (o : Obj) : Row (w.alloc o) b n i P Q := h.kept ((heap_alloc w o).2 _ h.lt)

theorem Row.place (h : Row w b n i P Q) {j : Nat} (hj : j < i) (hn : j < n) : w.cell? ⟨b, j * 2, none⟩ = some (.int .i64 (P j)) := by
  obtain ⟨c, h1, _, h2⟩ := h
  simp [World.cell?, h1, (h2 j hj hn).1]
theorem Row.build (h : Row w b n i P Q) {j : Nat} (hj : j < i) (hn : j < n) : w.cell? ⟨b, j * 2 + 1, none⟩ = some (.pointer (Q j)) := by
  obtain ⟨c, h1, _, h2⟩ := h
  simp [World.cell?, h1, (h2 j hj hn).2]
theorem Row.free (h : Row w b n i P Q) (o : Nat) : w.frozen? ⟨b, o, none⟩ = false := by
  obtain ⟨c, h1, _⟩ := h
  simp [World.frozen?, h1]
theorem Row.some (h : Row w b n i P Q) {o : Nat} (ho : o < n * 2) : ∃ v, w.cell? ⟨b, o, none⟩ = Option.some v := by
  obtain ⟨c, h1, h2, _⟩ := h
  exact ⟨c[o]'(by omega), by simp [World.cell?, h1, h2, ho]⟩

theorem Row.start (w : World) (n : Nat) (P : Nat → Int) (Q : Nat → Option Addr) : Row (w.alloc (.cells (blanks n) 39)) w.heap.size n 0 P Q :=
  ⟨blanks n, (heap_alloc w _).1, blanks_size n, fun _ h => by omega⟩

theorem Row.step (h : Row w b n i P Q) (hi : i < n) : Row ((w.setCell ⟨b, i * 2, none⟩ (.int .i64 (P i))).setCell ⟨b, i * 2 + 1, none⟩ (.pointer (Q i))) b n (i + 1) P Q := by
  obtain ⟨c, h1, h2, h3⟩ := h
  refine ⟨_, heap_setCell_at _ _ _ (heap_setCell_at _ _ _ h1), by simp [h2], fun j hj hn => ?_⟩
  by_cases e : j = i
  · subst e
    refine ⟨?_, ?_⟩
    · rw [Array.getElem?_setIfInBounds_ne (by omega)]
      exact Array.getElem?_setIfInBounds_self_of_lt (by omega)
    · exact Array.getElem?_setIfInBounds_self_of_lt (by simp; omega)
  · refine ⟨?_, ?_⟩
    · rw [Array.getElem?_setIfInBounds_ne (by omega), Array.getElem?_setIfInBounds_ne (by omega)]; exact (h3 j (by omega) hn).1
    · rw [Array.getElem?_setIfInBounds_ne (by omega), Array.getElem?_setIfInBounds_ne (by omega)]; exact (h3 j (by omega) hn).2

theorem Row.step' (h : Row w b n i P Q) (hi : i < n) {x : Int} {q : Option Addr} (hx : P i = x) (hq : Q i = q) : Row ((w.setCell ⟨b, i * 2, none⟩ (.int .i64 x)).setCell ⟨b, i * 2 + 1, none⟩ (.pointer q)) b n (i + 1) P Q := by
  subst hx hq
  exact h.step hi
end

/-- Which build the j-th mark gets. -/
def pick (z : Int) (p0 p1 : Addr) : Option Addr := if z % 3 = 1 then some p0 else if z % 3 = 2 then some p1 else none
def sel (z : Nat → Int) (len1 j : Nat) : Int := if j < len1 then z j else 0

theorem pick_one {z : Nat → Int} {len1 j : Nat} (p0 p1 : Addr) (h : j < len1) (h1 : (z j % 3 == 1) = true) : pick (sel z len1 j) p0 p1 = some p0 := by
  have : z j % 3 = 1 := by simpa using h1
  simp [pick, sel, h, this]
theorem pick_two {z : Nat → Int} {len1 j : Nat} (p0 p1 : Addr) (h : j < len1) (h2 : (z j % 3 == 2) = true) : pick (sel z len1 j) p0 p1 = some p1 := by
  have : z j % 3 = 2 := by simpa using h2
  simp [pick, sel, h, this]
theorem pick_nil {z : Nat → Int} {len1 j : Nat} (p0 p1 : Addr) (h : j < len1) (h1 : (z j % 3 == 1) = false) (h2 : (z j % 3 == 2) = false) : pick (sel z len1 j) p0 p1 = none := by
  have e1 : ¬ z j % 3 = 1 := by simpa using h1
  have e2 : ¬ z j % 3 = 2 := by simpa using h2
  simp [pick, sel, h, e1, e2]
theorem pick_past {z : Nat → Int} {len1 j : Nat} (p0 p1 : Addr) (h : ¬ j < len1) : pick (sel z len1 j) p0 p1 = none := by
  simp [pick, sel, h]
end Go.Proofs.Ybulkozg
