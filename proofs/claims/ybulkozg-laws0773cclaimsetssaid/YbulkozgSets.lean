/-
  WHAT THE FIRST LOOP OF LawS0773CClaimSets KEEPS, said of the world alone (no walk here).
-/
import Derived.Test.YbulkozgClaims
import Derived.Deep.Draws
namespace Go.Proofs.Ybulkozg
open Go.RowKit Go.MapKept Go.ChangeMaps

def nils (n : Nat) : Array Value := Array.replicate n (.pointer none)

theorem nils_at {n j : Nat} (h : j < n) : (nils n)[j]? = some (.pointer none) := by simp [nils, h]
theorem nils_size (n : Nat) : (nils n).size = n := by simp [nils]

/-- Where the j-th definition lies; where its old build lies. -/
def dA (N j : Nat) : Addr := ⟨N + 4 + 2 * j, 0, none⟩
def oA (N j : Nat) : Addr := ⟨N + 4 + 2 * j + 1, 0, none⟩

theorem dA_inj {N i j : Nat} (h : dA N i = dA N j) : i = j := by
  simp [dA] at h; omega

/-- A row of n pointers whose first i are filled. -/
def Filled (c : Array Value) (n i : Nat) (p : Nat → Addr) : Prop :=
  c.size = n ∧ (∀ j, j < i → j < n → c[j]? = some (.pointer (some (p j)))) ∧ ∀ j, i ≤ j → j < n → c[j]? = some (.pointer none)

theorem Filled.start (n : Nat) (p : Nat → Addr) : Filled (nils n) n 0 p :=
  ⟨nils_size n, fun _ h => by omega, fun _ _ h => nils_at h⟩

theorem Filled.step {c : Array Value} {n i : Nat} {p : Nat → Addr} (h : Filled c n i p) (hi : i < n) : Filled (c.setIfInBounds i (.pointer (some (p i)))) n (i + 1) p := by
  obtain ⟨h1, h2, h3⟩ := h
  refine ⟨by simp [h1], fun j hj hn => ?_, fun j hj hn => ?_⟩
  · by_cases e : i = j
    · subst e; simp [h1, hi]
    · rw [Array.getElem?_setIfInBounds_ne e]; exact h2 j (by omega) hn
  · rw [Array.getElem?_setIfInBounds_ne (by omega)]; exact h3 j (by omega) hn

/-- How many of the first i are marked. -/
def cnt (f : Nat → Bool) : Nat → Nat
  | 0 => 0
  | i + 1 => cnt f i + if f i then 1 else 0
theorem cnt_le (f : Nat → Bool) : ∀ i, cnt f i ≤ i
  | 0 => Nat.le_refl _
  | i + 1 => by have := cnt_le f i; unfold cnt; split <;> omega

/-- The map holds, of the definitions below i, just those that are marked. -/
def Held (N : Nat) (g : Nat → Bool) (i : Nat) (f : Addr → Option Value) : Prop :=
  ∀ j, f (dA N j) = if j < i ∧ g j = true then some (.pointer (some (oA N j))) else none

theorem Held.start (N : Nat) (g : Nat → Bool) : Held N g 0 (fun _ => none) := fun j => by simp

theorem Held.skip {N : Nat} {g : Nat → Bool} {i : Nat} {f : Addr → Option Value} (h : Held N g i f) (hg : g i = false) : Held N g (i + 1) f := by
  intro j
  rw [h j]
  by_cases e : j = i
  · subst e; simp [hg]
  · have : (j < i) ↔ (j < i + 1) := by omega
    simp [this]

theorem Held.put {N : Nat} {g : Nat → Bool} {i : Nat} {f : Addr → Option Value} (h : Held N g i f) (hg : g i = true) :
    Held N g (i + 1) (fun q => if q = dA N i then some (.pointer (some (oA N i))) else f q) := by
  intro j
  by_cases e : j = i
  · subst e; simp [hg]
  · have h1 : dA N j ≠ dA N i := fun c => e (dA_inj c)
    have : (j < i) ↔ (j < i + 1) := by omega
    simp only [h1, if_false, h j, this]

theorem Held.fresh {N : Nat} {g : Nat → Bool} {i : Nat} {f : Addr → Option Value} (h : Held N g i f) : f (dA N i) = none := by
  rw [h i]; simp

/-- WHAT HOLDS AT THE HEAD OF ROUND i (m = i); within it: both rows filled up to i, the map told of m. -/
structure Inv (w wr : World) (g : Nat → Bool) (n i m : Nat) : Prop where
  size : wr.heap.size = w.heap.size + 4 + 2 * i
  bel : Below w.heap.size w wr
  defs : ∃ c, wr.heap[w.heap.size]? = some (.cells c 26 (0, 0)) ∧ Filled c n i (dA w.heap.size)
  olds : ∃ c, wr.heap[w.heap.size + 1]? = some (.cells c 24 (0, 0)) ∧ Filled c n i (oA w.heap.size)
  map : ∃ f, PMap wr (w.heap.size + 1 + 1) (cnt g m) f ∧ Held w.heap.size g m f
  val : wr.heap[w.heap.size + 1 + 1 + 1]? = some (.cells #[.map (some (w.heap.size + 1 + 1)), .pointer none] 47 (0, 0))
  pl : ∀ j, j < i → Plain wr (dA w.heap.size j)

theorem Inv.start (w : World) (g : Nat → Bool) (n : Nat) :
    Inv w ((((w.alloc (.cells (nils n) 26)).alloc (.cells (nils n) 24)).alloc (.map #[] 0)).alloc (.cells #[.map (some (w.heap.size + 1 + 1)), .pointer none] 47)) g n 0 0 := by
  refine ⟨by simp, ?_, ⟨nils n, ?_, .start _ _⟩, ⟨nils n, ?_, .start _ _⟩, ⟨fun _ => none, ?_, .start _ _⟩, ?_, fun j h => by omega⟩
  · exact ((((Below.refl _ _).alloc (Nat.le_refl _) _).alloc (by simp) _).alloc (by simp <;> omega) _).alloc (by simp <;> omega) _
  · rw [(heap_alloc _ _).2 _ (by simp <;> omega), (heap_alloc _ _).2 _ (by simp <;> omega), (heap_alloc _ _).2 _ (by simp)]; exact (heap_alloc _ _).1
  · rw [(heap_alloc _ _).2 _ (by simp <;> omega), (heap_alloc _ _).2 _ (by simp)]
    have := (heap_alloc (w.alloc (.cells (nils n) 26)) (.cells (nils n) 24)).1
    simpa using this
  · have := (PMap.made ((w.alloc (.cells (nils n) 26)).alloc (.cells (nils n) 24))).alloc (.cells #[.map (some (w.heap.size + 1 + 1)), .pointer none] 47)
    simpa [cnt] using this
  · have := (heap_alloc (((w.alloc (.cells (nils n) 26)).alloc (.cells (nils n) 24)).alloc (.map #[] 0)) (.cells #[.map (some (w.heap.size + 1 + 1)), .pointer none] 47)).1
    simpa using this

theorem cell_of_block {w : World} {b o : Nat} {c : Array Value} {t : TypeId} {v : Value} (h : w.heap[b]? = some (.cells c t (0, 0))) (hc : c[o]? = some v) : w.cell? ⟨b, o, none⟩ = some v := by
  simp [World.cell?, h, hc]
theorem free_of_block {w : World} {b o : Nat} {c : Array Value} {t : TypeId} (h : w.heap[b]? = some (.cells c t (0, 0))) : w.frozen? ⟨b, o, none⟩ = false := by
  simp [World.frozen?, h]

section
variable {w wr : World} {g : Nat → Bool} {n i m : Nat}
theorem Inv.dcell (h : Inv w wr g n i m) (hi : i < n) : wr.cell? ⟨w.heap.size, i, none⟩ = some (.pointer none) ∧ wr.frozen? ⟨w.heap.size, i, none⟩ = false := by
  obtain ⟨c, h1, h2⟩ := h.defs
  exact ⟨cell_of_block h1 (h2.2.2 i (Nat.le_refl _) hi), free_of_block h1⟩
theorem Inv.ocell (h : Inv w wr g n i m) (hi : i < n) : wr.cell? ⟨w.heap.size + 1, i, none⟩ = some (.pointer none) ∧ wr.frozen? ⟨w.heap.size + 1, i, none⟩ = false := by
  obtain ⟨c, h1, h2⟩ := h.olds
  exact ⟨cell_of_block h1 (h2.2.2 i (Nat.le_refl _) hi), free_of_block h1⟩
theorem Inv.vcell (h : Inv w wr g n i m) : wr.cell? ⟨w.heap.size + 1 + 1 + 1, 0, none⟩ = some (.map (some (w.heap.size + 1 + 1))) := cell_of_block h.val rfl

/-- Behind the two stores of a round: both rows are filled one further. -/
theorem Inv.fill (h : Inv w wr g n i m) (hi : i < n) (D B : Array Value) (tD tB : TypeId) :
    Inv w ((((wr.setCell ⟨w.heap.size, i, none⟩ (.pointer (some ⟨wr.heap.size, 0, none⟩))).setCell ⟨w.heap.size + 1, i, none⟩ (.pointer (some ⟨wr.heap.size + 1, 0, none⟩))).alloc (.cells D tD)).alloc (.cells B tB)) g n (i + 1) m := by
  obtain ⟨hs, hb, ⟨c, hc, hcf⟩, ⟨d, hd, hdf⟩, ⟨f, hf, hh⟩, hv, hp⟩ := h
  have e1 : (⟨wr.heap.size, 0, none⟩ : Addr) = dA w.heap.size i := by simp [dA, hs]
  have e2 : (⟨wr.heap.size + 1, 0, none⟩ : Addr) = oA w.heap.size i := by simp [oA, hs]
  rw [e1, e2]
  have z1 : ∀ (u : World) (a : Addr) (v : Value), (u.setCell a v).heap.size = u.heap.size := fun u a v => by simp [World.setCell]
  have hn : ∀ (u : World) (o o' : Obj) (k : Nat), k < u.heap.size → ((u.alloc o).alloc o').heap[k]? = u.heap[k]? := fun u o o' k hk => by
    rw [(heap_alloc _ _).2 _ (by simp; omega), (heap_alloc _ _).2 _ hk]
  refine ⟨by simp [z1, hs]; omega, ?_, ⟨c.setIfInBounds i (.pointer (some (dA w.heap.size i))), ?_, hcf.step hi⟩, ⟨d.setIfInBounds i (.pointer (some (oA w.heap.size i))), ?_, hdf.step hi⟩, ⟨f, ?_, hh⟩, ?_, ?_⟩
  · exact (((hb.setCell (Nat.le_refl _) _).setCell (Nat.le_succ _) _).alloc (by simp [z1]; omega) _).alloc (by simp [z1]; omega) _
  · rw [hn _ _ _ _ (by simp only [z1]; omega), Below.heap_setCell _ _ _ _ (by simp)]
    exact heap_setCell_at _ _ _ hc
  · rw [hn _ _ _ _ (by simp only [z1]; omega)]
    exact heap_setCell_at _ _ _ (by rw [Below.heap_setCell _ _ _ _ (by simp)]; exact hd)
  · exact (((hf.setCell _ (by simp <;> omega) _).setCell _ (by simp <;> omega) _).alloc _).alloc _
  · rw [hn _ _ _ _ (by simp only [z1]; omega), Below.heap_setCell _ _ _ _ (by simp <;> omega), Below.heap_setCell _ _ _ _ (by simp <;> omega)]
    exact hv
  · intro j hj
    by_cases e : j = i
    · subst e
      refine ⟨D, tD, ?_⟩
      rw [(heap_alloc _ _).2 _ (by simp [z1, dA]; omega)]
      have := (heap_alloc ((wr.setCell ⟨w.heap.size, j, none⟩ (.pointer (some (dA w.heap.size j)))).setCell ⟨w.heap.size + 1, j, none⟩ (.pointer (some (oA w.heap.size j)))) (.cells D tD)).1
      simpa [z1, hs, dA] using this
    · exact ((((hp j (by omega)).setCell _ _).setCell _ _).alloc _).alloc _

/-- The map has been told of m. -/
theorem Inv.put {w1 : World} {f : Addr → Option Value} (h : Inv w wr g n i m) (hg : g m = true) (hh : Held w.heap.size g m f)
    (h1 : PMap w1 (w.heap.size + 1 + 1) (if (f (dA w.heap.size m)).isSome then cnt g m else cnt g m + 1) (fun q => if q = dA w.heap.size m then some (.pointer (some (oA w.heap.size m))) else f q))
    (ht : MapTurned wr w1 (w.heap.size + 1 + 1)) : Inv w w1 g n i (m + 1) := by
  obtain ⟨hs, hb, ⟨c, hc, hcf⟩, ⟨d, hd, hdf⟩, _, hv, hp⟩ := h
  have hz := ht.size
  refine ⟨hz.trans hs, hb.trans (ht.below (by omega)), ⟨c, ?_, hcf⟩, ⟨d, ?_, hdf⟩, ⟨_, ?_, hh.put hg⟩, ?_, fun j hj => ht.plain (hp j hj)⟩
  · rw [ht.heap (by omega)]; exact hc
  · rw [ht.heap (by omega)]; exact hd
  · have : f (dA w.heap.size m) = none := hh.fresh
    rw [this] at h1
    simpa [cnt, hg] using h1
  · rw [ht.heap (by omega)]; exact hv

theorem Inv.skip (h : Inv w wr g n i m) (hg : g m = false) : Inv w wr g n i (m + 1) := by
  obtain ⟨hs, hb, hc, hd, ⟨f, hf, hh⟩, hv, hp⟩ := h
  exact ⟨hs, hb, hc, hd, ⟨f, by simpa [cnt, hg] using hf, hh.skip hg⟩, hv, hp⟩

theorem Inv.drew (h : Inv w wr g n i m) : Inv w wr.drew g n i m := ⟨h.size, h.bel.drew, h.defs, h.olds, h.map, h.val, h.pl⟩

theorem Inv.dat (h : Inv w wr g n i m) {j : Nat} (hj : j < i) (hn : j < n) : wr.cell? ⟨w.heap.size, j, none⟩ = some (.pointer (some (dA w.heap.size j))) := by
  obtain ⟨c, h1, h2⟩ := h.defs
  exact cell_of_block h1 (h2.2.1 j hj hn)
theorem Inv.oat (h : Inv w wr g n i m) {j : Nat} (hj : j < i) (hn : j < n) : wr.cell? ⟨w.heap.size + 1, j, none⟩ = some (.pointer (some (oA w.heap.size j))) := by
  obtain ⟨c, h1, h2⟩ := h.olds
  exact cell_of_block h1 (h2.2.1 j hj hn)
end

/-- WHAT STANDS BEHIND THE FIRST LOOP. -/
structure Inv2 (w W : World) (n m : Nat) (f : Addr → Option Value) : Prop where
  bel : Below w.heap.size w W
  defs : ∀ j, j < n → W.cell? ⟨w.heap.size, j, none⟩ = some (.pointer (some (dA w.heap.size j)))
  olds : ∀ j, j < n → W.cell? ⟨w.heap.size + 1, j, none⟩ = some (.pointer (some (oA w.heap.size j)))
  map : PMap W (w.heap.size + 1 + 1) m f
  v0 : W.cell? ⟨w.heap.size + 1 + 1 + 1, 0, none⟩ = some (.map (some (w.heap.size + 1 + 1)))
  v1 : W.cell? ⟨w.heap.size + 1 + 1 + 1, 1, none⟩ = some (.pointer none)
  pl : ∀ j, j < n → Plain W (dA w.heap.size j)
  big : w.heap.size + 1 + 1 + 1 < W.heap.size

section
variable {w W : World} {n m : Nat} {f : Addr → Option Value}
theorem Inv.two {g : Nat → Bool} (h : Inv w W g n n m) : ∃ f, Inv2 w W n (cnt g m) f ∧ Held w.heap.size g m f := by
  obtain ⟨f, hf, hh⟩ := h.map
  exact ⟨f, ⟨h.bel, fun j hj => h.dat hj hj, fun j hj => h.oat hj hj, hf, h.vcell, cell_of_block h.val rfl, h.pl, by rw [h.size]; omega⟩, hh⟩

theorem cell_alloc {a : Addr} {v : Value} (h : W.cell? a = some v) (o : Obj) (hb : a.block < W.heap.size) : (W.alloc o).cell? a = some v := by
  rw [World.cell?_of_block (w := W) ((heap_alloc W o).2 _ hb)]; exact h

theorem Inv2.alloc (h : Inv2 w W n m f) (o : Obj) : Inv2 w (W.alloc o) n m f := by
  have hb := h.big
  exact ⟨h.bel.alloc (by omega) o, fun j hj => cell_alloc (h.defs j hj) o (by show w.heap.size < _; omega), fun j hj => cell_alloc (h.olds j hj) o (by show w.heap.size + 1 < _; omega), h.map.alloc o,
    cell_alloc h.v0 o hb, cell_alloc h.v1 o hb, fun j hj => (h.pl j hj).alloc o, by simp; omega⟩

theorem Inv2.drewN (h : Inv2 w W n m f) (q : Nat) : Inv2 w (W.drewN q) n m f :=
  ⟨⟨h.bel.os, h.bel.tape, h.bel.output, h.bel.size, h.bel.block⟩, h.defs, h.olds, h.map, h.v0, h.v1, h.pl, h.big⟩

theorem Inv2.turned {W' : World} {m' : Nat} {f' : Addr → Option Value} (h : Inv2 w W n m f) (ht : MapTurned W W' (w.heap.size + 1 + 1)) (hm : PMap W' (w.heap.size + 1 + 1) m' f') : Inv2 w W' n m' f' := by
  refine ⟨h.bel.trans (ht.below (by omega)), fun j hj => ?_, fun j hj => ?_, hm, ?_, ?_, fun j hj => ht.plain (h.pl j hj), by rw [ht.size]; exact h.big⟩
  · rw [ht.cell (by show w.heap.size ≠ _; omega)]; exact h.defs j hj
  · rw [ht.cell (by show w.heap.size + 1 ≠ _; omega)]; exact h.olds j hj
  · rw [ht.cell (by show w.heap.size + 1 + 1 + 1 ≠ _; omega)]; exact h.v0
  · rw [ht.cell (by show w.heap.size + 1 + 1 + 1 ≠ _; omega)]; exact h.v1
end

theorem pmap_len {w : World} {b n : Nat} {f : Addr → Option Value} (h : PMap w b n f) : (Builtin.len_ #[45] 3 #[.map (some b)]).run Yba.prog w = .ok (.int .i64 n) w := by
  obtain ⟨es, c, hb, hn⟩ := h.len
  simp [Builtin.len_, run_underlying Yba.underlying45, MapKept.run_getObj_map hb, goInt, hn]

theorem run_make24 (t e : TypeId) (i : TypeInfo) (n : Nat) (w : World) (ht : Yba.prog.underlying t = some (.slice e)) (hi : Yba.prog.info? e = some i) (hz : i.zero = some (.pointer none)) (h1 : i.size = 1) (h8 : i.bytes = 8) (hn : n ≤ 2000) :
    (Instr.makeSlice t (.int .i64 (n : Int)) (.int .i64 (n : Int))).run Yba.prog w = .ok (.slice (some ⟨w.heap.size, 0, none⟩) n n) (w.alloc (.cells (nils n) e)) := by
  have h := run_make (P := Yba.prog) w t e i (.pointer none) ht hi hz .i64 .i64 n n (by omega) (by omega) (by rw [h8]; omega) (by omega)
  have e1 : madeCells (Value.pointer none).cells ((n : Int).toNat * i.size) = nils n := by
    rw [h1]
    simp only [Int.toNat_natCast, Nat.mul_one]
    apply Array.ext
    · simp [madeCells, nils]
    · intro j h2 h3
      simp [madeCells, nils, Value.cells, Nat.mod_one]
  rw [e1] at h
  simpa using h

theorem make44 (len : Nat) (h : len ≤ 1024) (w : World) : (Instr.makeSlice 44 (.int .i64 ((len : Int) + 1)) (.int .i64 ((len : Int) + 1))).run Yba.prog w = .ok (.slice (some ⟨w.heap.size, 0, none⟩) (len + 1) (len + 1)) (w.alloc (.cells (nils (len + 1)) 26)) := by
  have hi : (Yba.prog.info? 26).map (fun i => (i.zero, i.size, i.bytes)) = some (some (.pointer none), 1, 8) := by kernel_rfl
  obtain ⟨i, h1, h2, h3, h4⟩ := info_parts hi
  exact run_make24 44 26 i (len + 1) w Yba.underlying44 h1 h2 h3 h4 (by omega)
theorem make31 (len : Nat) (h : len ≤ 1024) (w : World) : (Instr.makeSlice 31 (.int .i64 ((len : Int) + 1)) (.int .i64 ((len : Int) + 1))).run Yba.prog w = .ok (.slice (some ⟨w.heap.size, 0, none⟩) (len + 1) (len + 1)) (w.alloc (.cells (nils (len + 1)) 24)) := by
  have hi : (Yba.prog.info? 24).map (fun i => (i.zero, i.size, i.bytes)) = some (some (.pointer none), 1, 8) := by kernel_rfl
  obtain ⟨i, h1, h2, h3, h4⟩ := info_parts hi
  exact run_make24 31 24 i (len + 1) w Yba.underlying31 h1 h2 h3 h4 (by omega)

/-- What the map holds behind the claim at another definition. -/
theorem Held.other {N : Nat} {g : Nat → Bool} {n J : Nat} {f : Addr → Option Value} (h : Held N g n f) (X : Value) {j : Nat} (hj : j < n) (hne : j ≠ J) :
    (fun q => if q = dA N J then some X else f q) (dA N j) = if g j = true then some (.pointer (some (oA N j))) else none := by
  have h1 : dA N j ≠ dA N J := fun c => hne (dA_inj c)
  simp only [h1, if_false, h j, hj, true_and]
end Go.Proofs.Ybulkozg
