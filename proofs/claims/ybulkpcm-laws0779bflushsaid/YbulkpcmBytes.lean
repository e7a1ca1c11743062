/-
  ROWS OF BYTES THAT THE CALL OWNS, AND append ON THEM (no walk here; laws for the walk at its end).
-/
import Derived.Test.YbulkpcmRows
import Derived.WalkKit
import Derived.WalkSpells
import Derived.WalkLawsBesides
import Derived.Maps.AppendAt
import Derived.Laws.AppendOwnNone
import Derived.Deep.Draws
import Derived.Deep.RegionLaw
import Derived.MapKept
namespace Go.Proofs.Ybulkpcm
open Go.RowKit Go.MapKept

def ints (xs : List Int) : List Value := xs.map (Value.int .u8)

theorem ints_length (xs : List Int) : (ints xs).length = xs.length := by simp [ints]
theorem ints_append (xs ys : List Int) : ints (xs ++ ys) = ints xs ++ ints ys := by simp [ints]
theorem ints_at {xs : List Int} {j : Nat} {u : Value} (h : (ints xs)[j]? = some u) : j < xs.length ∧ u = .int .u8 (xs.getD j 0) := by
  unfold ints at h
  rw [List.getElem?_map] at h
  cases hx : xs[j]? with
  | none => rw [hx] at h; cases h
  | some z =>
    rw [hx] at h
    have hj : j < xs.length := (List.getElem?_eq_some_iff.1 hx).1
    refine ⟨hj, ?_⟩
    simp at h
    rw [← h, List.getD_eq_getElem?_getD, hx]; rfl
theorem ints_get {xs : List Int} {j : Nat} (h : j < xs.length) : (ints xs)[j]? = some (.int .u8 (xs.getD j 0)) := by
  unfold ints
  rw [List.getElem?_map, List.getElem?_eq_getElem h]
  simp [h]
theorem ints_one (xs : List Int) : ∀ u ∈ ints xs, u.oneCell' = true := by
  intro u hu
  obtain ⟨z, _, rfl⟩ := List.mem_map.1 hu
  rfl

/-- THE SLICE v OWNS THE BYTES xs, in a block from B on. -/
def Own (w : World) (B : Nat) (v : Value) (xs : List Int) : Prop := w.ownsRow B 5 1 v xs.length (ints xs)

/-- What may be appended: a nil slice, or one whose cells hold ys. -/
def SrcB (w : World) (x : Value) (ys : List Int) : Prop :=
  (x = .slice none 0 0 ∧ ys = []) ∨ ∃ ad c, x = .slice (some ad) ys.length c ∧ ∀ j, j < ys.length → w.cell? (ad.add j) = some (.int .u8 (ys.getD j 0))

section
variable {w w' : World} {B : Nat} {v x : Value} {xs ys : List Int}

theorem own_nil (w : World) (B : Nat) : Own w B (.slice none 0 0) [] := World.ownsRow_nil w B 5 1

theorem Own.cases (h : Own w B v xs) : (v = .slice none 0 0 ∧ xs = []) ∨
    ∃ g cap cur, v = .slice (some ⟨g, 0, none⟩) xs.length cap ∧ B ≤ g ∧ w.heap[g]? = some (.cells cur 5 (0, 0)) ∧ xs.length ≤ cap ∧ cap ≤ maxLen ∧ cur.size = cap ∧ ∀ j, j < xs.length → w.cell? ⟨g, j, none⟩ = some (.int .u8 (xs.getD j 0)) := by
  obtain ⟨h1, h2⟩ := h
  rcases h2 with ⟨rfl, h2⟩ | ⟨g, cap, cur, rfl, hg, hh, hl, hm, hs, ht⟩
  · exact .inl ⟨rfl, List.eq_nil_of_length_eq_zero h2⟩
  · refine .inr ⟨g, cap, cur, rfl, hg, hh, hl, hm, by omega, fun j hj => ?_⟩
    have e : cur[j]? = some (.int .u8 (xs.getD j 0)) := by
      have := ints_get hj
      rw [← ht, Nat.mul_one, List.getElem?_take_of_lt hj] at this
      simpa using this
    simp [World.cell?, hh, e]

theorem Own.len (h : Own w B v xs) : ∃ a c, v = .slice a xs.length c := by
  rcases h.cases with ⟨rfl, rfl⟩ | ⟨g, cap, cur, rfl, _⟩
  · exact ⟨_, _, rfl⟩
  · exact ⟨_, _, rfl⟩

theorem Own.lt (h : Own w B v xs) {k : Nat} (hk : v.ownBlock = some k) : B ≤ k ∧ k < w.heap.size := World.ownsRow.lt h k hk

theorem Own.kept (h : Own w B v xs) (hb : ∀ k, v.ownBlock = some k → w'.heap[k]? = w.heap[k]?) : Own w' B v xs := by
  obtain ⟨h1, h2⟩ := h
  refine ⟨h1, ?_⟩
  rcases h2 with h2 | ⟨g, cap, cur, rfl, hg, hh, r⟩
  · exact .inl h2
  · exact .inr ⟨g, cap, cur, rfl, hg, by rw [hb g rfl]; exact hh, r⟩

theorem Own.base {B' : Nat} (h : Own w B v xs) (hB : B' ≤ B) : Own w B' v xs := by
  obtain ⟨h1, h2⟩ := h
  refine ⟨h1, ?_⟩
  rcases h2 with h2 | ⟨g, cap, cur, rfl, hg, r⟩
  · exact .inl h2
  · exact .inr ⟨g, cap, cur, rfl, Nat.le_trans hB hg, r⟩

theorem Own.alloc (h : Own w B v xs) (o : Obj) : Own (w.alloc o) B v xs := World.ownsRow.alloc h o
theorem Own.drewN (h : Own w B v xs) (n : Nat) : Own (w.drewN n) B v xs := h
theorem Own.drew (h : Own w B v xs) : Own w.drew B v xs := h
theorem Own.below {C : Nat} (h : Own w B v xs) (hb : Below C w w') (hC : ∀ k, v.ownBlock = some k → k < C) : Own w' B v xs := h.kept (fun k hk => hb.block k (hC k hk))

theorem Own.src (h : Own w B v xs) : SrcB w v xs := by
  rcases h.cases with h | ⟨g, cap, cur, rfl, _, _, _, _, _, hc⟩
  · exact .inl h
  · refine .inr ⟨⟨g, 0, none⟩, cap, rfl, fun j hj => ?_⟩
    rw [Go.WideShapes.add_plain, Nat.zero_add]
    exact hc j hj

theorem SrcB.kept (h : SrcB w x ys) (hb : ∀ (a : Addr) u, w.cell? a = some u → w'.cell? a = some u) : SrcB w' x ys := by
  rcases h with h | ⟨ad, c, rfl, h⟩
  · exact .inl h
  · exact .inr ⟨ad, c, rfl, fun j hj => hb _ _ (h j hj)⟩

/-- One element, as the translation lays it ahead of an append. -/
theorem src_one (w : World) (z : Int) : SrcB (w.alloc (.cells #[.int .u8 z] 5)) (.slice (some ⟨w.heap.size, 0, none⟩) 1 1) [z] := by
  refine .inr ⟨⟨w.heap.size, 0, none⟩, 1, rfl, fun j hj => ?_⟩
  have e : j = 0 := by simp at hj; omega
  subst e
  exact cell_one_new w (.int .u8 z) 5 0 _ (by simp)

/-- The head of a slice of the call's own, as a source. -/
theorem Own.head {a : Option Addr} {n c m : Nat} (h : Own w B (.slice a n c) xs) (hm : m ≤ n) : SrcB w (.slice a m c) (xs.take m) ∧ n ≤ c ∧ n = xs.length := by
  rcases h.cases with ⟨e, rfl⟩ | ⟨g, cap, cur, e, _, _, hl, _, _, hc⟩
  · simp at e
    obtain ⟨rfl, rfl, rfl⟩ := e
    obtain rfl : m = 0 := by omega
    exact ⟨.inl ⟨rfl, rfl⟩, Nat.le_refl _, rfl⟩
  · simp at e
    obtain ⟨rfl, rfl, rfl⟩ := e
    refine ⟨.inr ⟨⟨g, 0, none⟩, c, ?_, fun j hj => ?_⟩, hl, rfl⟩
    · rw [List.length_take, Nat.min_eq_left hm]
    · have hj' : j < m := by rw [List.length_take] at hj; omega
      rw [Go.WideShapes.add_plain, Nat.zero_add, hc j (by omega)]
      simp [List.getD_eq_getElem?_getD, List.getElem?_take_of_lt hj']

theorem info5 : (Yba.prog.info? 5).map (fun i => (i.zero, i.size, i.bytes)) = some (some (.int .u8 0), 1, 1) := by kernel_rfl

/-- append ONTO BYTES OF THE CALL's OWN. -/
theorem Own.append (h : Own w B v xs) (hs : SrcB w x ys) (hl : xs.length + ys.length ≤ 1000000) (hB : B ≤ w.heap.size) (ty : TypeId) :
    ∃ v' w', (Builtin.append_ #[22, 22] ty #[v, x]).run Yba.prog w = .ok v' w' ∧ Own w' B v' (xs ++ ys) ∧ w.grownBy w' v.ownBlock ∧ (v'.ownBlock = v.ownBlock ∨ v'.ownBlock = some w.heap.size) := by
  obtain ⟨i, h1, h2, h3, h4⟩ := info_parts info5
  rcases hs with ⟨rfl, rfl⟩ | ⟨ad, c, rfl, hc⟩
  · have hrun := run_append_owned_none (P := Yba.prog) (w := w) B 22 ty 5 i 1 Yba.underlying22 h1 v xs.length (ints xs) h
    exact ⟨v, w, hrun, by simpa using h, ⟨rfl, rfl, rfl, Nat.le_refl _, fun _ _ _ => rfl⟩, .inl rfl⟩
  · obtain ⟨v', w', r1, r2, r3, _, r5⟩ := run_append_own_at (P := Yba.prog) w B 22 ty 5 i _ 1 1 Yba.underlying22 h1 h2 h3 h4 rfl (by decide) v xs.length (ints xs) h ad ys.length c (ints ys) (by simp [ints_length])
      (fun j u hu => by obtain ⟨q1, q2⟩ := ints_at hu; rw [q2]; exact hc j q1) (ints_one ys) (by unfold maxLen; omega) (by omega) hB
    refine ⟨v', w', r1, ?_, r3, r5⟩
    unfold Own
    rw [ints_append, List.length_append]
    exact r2
end

/-- AT THE OPERATION, FOR THE WALK. -/
theorem wpList_append_bytes {w : World} {ops : Array Oper} {rest : List Oper} {o : Oper} {a : Act} {Q : Exit → Act → World → Prop} (hgd : o.guard = none) (s x : Operand)
    (ho : o.op = .call { callee := .builtin .append, args := #[s, x], argTypes := #[22, 22] })
    (B : Nat) (v xv : Value) (xs ys : List Int) (hown : Own w B v xs) (hsrc : SrcB w xv ys) (hs : a.eval s = v) (hx : a.eval x = xv) (n : Nat) (hn : xs.length + ys.length = n) (hl : n ≤ 1000000) (hB : B ≤ w.heap.size)
    (h : ∀ a' c' w', Own w' B (.slice a' n c') (xs ++ ys) → w.grownBy w' v.ownBlock → ((Value.slice a' n c').ownBlock = v.ownBlock ∨ (Value.slice a' n c').ownBlock = some w.heap.size) → wpList Yba.prog ops Q rest (a.put o.dst (.slice a' n c')) w') :
    wpList Yba.prog ops Q (o :: rest) a w := by
  refine wpList_plain hgd fun K hK => ?_
  subst hn
  obtain ⟨v', w', hr, h2, h3, h4⟩ := hown.append hsrc hl hB o.type
  obtain ⟨a', c', e⟩ := h2.len
  rw [List.length_append] at e
  subst e
  unfold Oper.wp execOp
  simp only [ho, resolve, invoke, builtin, Sem.run_bind, Sem.run_pure, Result.andThen_ok, List.map_toArray, List.map_cons, List.map_nil, hs, hx, hr]
  exact hK _ _ (h a' c' w' h2 h3 h4)

/-- THE SAME AS ONE STEP OF A REGION THAT DRAWS ITS ORDER. -/
theorem step_append_run {P : Program} {ops : Array Oper} {o : Oper} {a : Act} {w w' : World} {K : Act → World → Prop} {Q : Exit → Act → World → Prop} {E : Prop} {v xv v' : Value}
    (hg : o.guard = none) (s x : Operand) (t : TypeId) (hop : o.op = Op.call { callee := Callee.builtin Builtin.append, args := #[s, x], argTypes := #[t, t] })
    (hs : a.eval s = v) (hx : a.eval x = xv) (hrun : (Builtin.append_ #[t, t] o.type #[v, xv]).run P w = .ok v' w') (hK : K (a.put o.dst v') w') :
    if Region.wanted o (yielded ops a.tmps) = true then Oper.wp P o a w K Q else E := by
  have hw : Region.wanted o (yielded ops a.tmps) = true := by simp [Region.wanted, hg]
  rw [if_pos hw]
  unfold Oper.wp
  simp [execOp, hop, resolve, invoke, builtin, hs, hx, hrun, Result.andThen]
  exact hK
end Go.Proofs.Ybulkpcm
