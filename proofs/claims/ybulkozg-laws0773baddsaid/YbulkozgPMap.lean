/-
  MAPS KEYED BY POINTERS: what a look-up and a store do, for the law ClaimSets and ClaimFailed. Own work over the kit's laws (Derived/LaidEql, Derived/MapKept).
-/
import Derived.LaidEql
import Derived.MapKept
import Derived.ChangeMaps5
import Derived.WalkKit
namespace Go.Proofs.Ybulkozg
open Go Go.MapKept Go.ChangeMaps Go.RowKit

/-- The block that p leads into is a plain row of cells (no string's bytes). -/
def Plain (w : World) (p : Addr) : Prop := ∃ c t, w.heap[p.block]? = some (.cells c t (0, 0))

/-- Is this key the pointer p? -/
def isK (p : Addr) : Value → Bool
  | .pointer (some q) => q == p
  | _ => false

theorem isK_ptr (p q : Addr) : isK p (.pointer (some q)) = (q == p) := rfl

def findP (p : Addr) : List MapEntry → Nat → Option (Nat × Value)
  | [], _ => none
  | e :: es, i => if isK p e.key then some (i, e.val) else findP p es (i + 1)

theorem findP_val (p : Addr) : ∀ (l : List MapEntry) (i : Nat), (findP p l i).map (·.2) = (l.find? (fun e => isK p e.key)).map (·.val)
  | [], _ => rfl
  | e :: es, i => by
    unfold findP
    rw [List.find?_cons]
    cases h : isK p e.key with
    | true => simp
    | false => simpa using findP_val p es (i + 1)

theorem findP_at (p : Addr) : ∀ (l : List MapEntry) (i j : Nat) (v : Value), findP p l i = some (j, v) → i ≤ j ∧ ∃ e, l[j - i]? = some e ∧ isK p e.key = true
  | [], _, _, _, h => by cases h
  | e :: es, i, j, v, h => by
    unfold findP at h
    cases hk : isK p e.key with
    | true =>
      rw [hk] at h; simp at h
      obtain ⟨rfl, rfl⟩ := h
      exact ⟨Nat.le_refl _, e, by simp, hk⟩
    | false =>
      rw [hk] at h; simp at h
      obtain ⟨h1, e', h2, h3⟩ := findP_at p es (i + 1) j v h
      refine ⟨by omega, e', ?_, h3⟩
      have : j - i = (j - (i + 1)) + 1 := by omega
      rw [this]; simpa using h2

section
variable {P : Program} {w : World} {kt et : TypeId} {kd : TypeId} {i : TypeInfo}

theorem run_equalIn_ptr (d : Nat) (hk : P.underlying kt = some (.pointer kd)) (hi : P.info? kd = some i) (hs : i.size ≠ 0) (p q : Addr) (hp : Plain w p) (hq : Plain w q) :
    (Op.equalIn (d + 1) kt (.pointer (some p)) (.pointer (some q))).run P w = .ok (q == p) w := by
  obtain ⟨cp, tp, hp⟩ := hp
  obtain ⟨cq, tq, hq⟩ := hq
  by_cases h : q = p
  · subst h
    simp [Op.equalIn, run_underlying hk, sizeOf, typeInfo, hi, run_sameAddr_same]
  · have hne : p ≠ q := fun e => h e.symm
    simp [Op.equalIn, run_underlying hk, sizeOf, typeInfo, hi, hs, run_sameAddr_other w hne hp hq, h]

theorem run_equal_ptr (hk : P.underlying kt = some (.pointer kd)) (hi : P.info? kd = some i) (hs : i.size ≠ 0) (p q : Addr) (hp : Plain w p) (hq : Plain w q) :
    (Op.equal kt (.pointer (some p)) (.pointer (some q))).run P w = .ok (q == p) w := run_equalIn_ptr 9999 hk hi hs p q hp hq

theorem run_findAsking_ptr (hk : P.underlying kt = some (.pointer kd)) (hi : P.info? kd = some i) (hs : i.size ≠ 0) (p : Addr) (hp : Plain w p) :
    ∀ (l : List MapEntry) (j : Nat), (∀ e ∈ l, ∃ q, e.key = .pointer (some q) ∧ Plain w q) → (Instr.findAsking kt (.pointer (some p)) l j).run P w = .ok (findP p l j) w
  | [], j, _ => by simp [Instr.findAsking, findP]
  | e :: es, j, h => by
    obtain ⟨q, hq, hpq⟩ := h e (.head _)
    have ih := run_findAsking_ptr hk hi hs p hp es (j + 1) (fun x hx => h x (.tail _ hx))
    unfold Instr.findAsking findP
    rw [hq, isK_ptr]
    cases hb : (q == p) with
    | true => simp [run_equal_ptr hk hi hs p q hp hpq, hb]
    | false => simp [run_equal_ptr hk hi hs p q hp hpq, hb, ih]

theorem run_findKey_ptr (hk : P.underlying kt = some (.pointer kd)) (hi : P.info? kd = some i) (hs : i.size ≠ 0) (p : Addr) (hp : Plain w p) (l : List MapEntry)
    (h : ∀ e ∈ l, ∃ q, e.key = .pointer (some q) ∧ Plain w q) : (Instr.findKey kt (.pointer (some p)) l).run P w = .ok (findP p l 0) w := by
  cases l with
  | nil => simp [Instr.findKey, run_underlying hk, Instr.findNow, findP]
  | cons e es =>
    have ha := run_findAsking_ptr hk hi hs p hp (e :: es) 0 h
    have hn : Instr.findNow (.pointer kd) (.pointer (some p)) (e :: es) 0 = none := by simp [Instr.findNow, Instr.sameNow]
    simp [Instr.findKey, run_underlying hk, hn, ha]

theorem run_checkKeyIn_ptr (d : Nat) (hk : P.underlying kt = some (.pointer kd)) (p : Option Addr) (e : Bool) : (Instr.checkKey e (d + 1) kt (.pointer p)).run P w = .ok () w := by
  simp [Instr.checkKey, run_underlying hk]

theorem run_checkKey_ptr (hk : P.underlying kt = some (.pointer kd)) (p : Option Addr) (e : Bool) : (Instr.checkKey e 10000 kt (.pointer p)).run P w = .ok () w := run_checkKeyIn_ptr 9999 hk p e

end

/-- BLOCK b IS A MAP OF n ENTRIES, KEYED BY POINTERS INTO PLAIN ROWS, WHICH HOLDS f p AT p. -/
def PMap (w : World) (b n : Nat) (f : Addr → Option Value) : Prop :=
  ∃ es clock, w.heap[b]? = some (.map es clock) ∧ es.size = n ∧ (∀ e ∈ es.toList, ∃ q, e.key = .pointer (some q) ∧ Plain w q) ∧ ∀ p, (es.toList.find? (fun e => isK p e.key)).map (·.val) = f p

section
variable {P : Program} {w : World} {t kt et : TypeId} {kd : TypeId} {i : TypeInfo} {b n : Nat} {f : Addr → Option Value}

theorem PMap.look (h : PMap w b n f) (ht : P.underlying t = some (.map kt et)) (hk : P.underlying kt = some (.pointer kd)) (hi : P.info? kd = some i) (hs : i.size ≠ 0)
    {z : Value} (hz : (zeroValue et).run P w = .ok z w) (p : Addr) (hp : Plain w p) (ok : Bool) :
    (Instr.lookup t (.map (some b)) (.pointer (some p)) ok).run P w = .ok (if ok then .tuple #[(f p).getD z, .bool (f p).isSome] else (f p).getD z) w := by
  obtain ⟨es, clock, hb, hn, hks, hf⟩ := h
  have hv := (findP_val p es.toList 0).trans (hf p)
  have hfk := run_findKey_ptr hk hi hs p hp es.toList hks
  have hck := run_checkKey_ptr (P := P) (w := w) hk (some p) es.isEmpty
  cases hfp : findP p es.toList 0 with
  | none =>
    rw [hfp] at hv hfk
    rw [← hv]
    simp [Instr.lookup, run_underlying ht, MapKept.run_getObj_map hb, hck, hfk, hz]
  | some x =>
    obtain ⟨j, v⟩ := x
    rw [hfp] at hv hfk
    rw [← hv]
    simp [Instr.lookup, run_underlying ht, MapKept.run_getObj_map hb, hck, hfk]

theorem plain_setBlock {es es' : Array MapEntry} {c c' : Nat} (hb : w.heap[b]? = some (.map es c)) {p : Addr} (hp : Plain w p) : Plain (setBlock w b (.map es' c')) p := by
  obtain ⟨cs, t, hp⟩ := hp
  have hne : p.block ≠ b := fun e => by rw [e] at hp; rw [hb] at hp; cases hp
  exact ⟨cs, t, by rw [heap_setBlock_other hb _ hne]; exact hp⟩

/-- The world behind a store: that block is a map still; nothing else has turned. -/
def MapTurned (w w' : World) (b : Nat) : Prop := ∃ es c es' c', w.heap[b]? = some (.map es c) ∧ w' = setBlock w b (.map es' c')

theorem find_modify (p q : Addr) (v : Value) : ∀ (l : List MapEntry) (j : Nat), ∀ (x : Nat × Value), findP p l j = some x → ∀ k : Value, isK p k = true → (∀ r, isK r k = (p == r)) →
    ((l.modify (x.1 - j) (fun e => { e with key := k, val := v })).find? (fun e => isK q e.key)).map (·.val) = if q = p then some v else (l.find? (fun e => isK q e.key)).map (·.val)
  | [], _, _, h, _, _, _ => by cases h
  | e :: es, j, x, h, k, hk, hr => by
    unfold findP at h
    cases he : isK p e.key with
    | true =>
      rw [he] at h; simp at h
      subst h
      have hek : ∀ r, isK r e.key = (p == r) := by
        intro r
        cases hv : e.key <;> rw [hv] at he <;> try (simp [isK] at he; done)
        rename_i a
        cases a with
        | none => simp [isK] at he
        | some a => simp [isK] at he; subst he; rfl
      simp only [Nat.sub_self, List.modify_zero_cons, List.find?_cons, hr q, hek q]
      by_cases hqp : q = p
      · subst hqp; simp
      · have : (p == q) = false := by simp; exact fun e => hqp e.symm
        simp [this, hqp]
    | false =>
      rw [he] at h; simp at h
      have h1 := (findP_at p es (j + 1) x.1 x.2 h).1
      have e1 : x.1 - j = (x.1 - (j + 1)) + 1 := by omega
      rw [e1, List.modify_succ_cons, List.find?_cons, List.find?_cons]
      cases hq : isK q e.key with
      | true =>
        have hqp : q ≠ p := fun c => by rw [c, he] at hq; cases hq
        simp [hqp]
      | false => simpa using find_modify p q v es (j + 1) x h k hk hr

theorem isK_self (p r : Addr) : isK r (.pointer (some p)) = (p == r) := rfl

theorem PMap.store (h : PMap w b n f) (ht : P.underlying t = some (.map kt et)) (hk : P.underlying kt = some (.pointer kd)) (hi : P.info? kd = some i) (hs : i.size ≠ 0)
    (p : Addr) (hp : Plain w p) (v : Value) :
    ∃ w', (Instr.mapUpdate t (.map (some b)) (.pointer (some p)) v).run P w = .ok () w' ∧ PMap w' b (if (f p).isSome then n else n + 1) (fun q => if q = p then some v else f q) ∧ MapTurned w w' b := by
  obtain ⟨es, clock, hb, hn, hks, hf⟩ := h
  have hv := (findP_val p es.toList 0).trans (hf p)
  have hfk := run_findKey_ptr hk hi hs p hp es.toList hks
  have hck := run_checkKey_ptr (P := P) (w := w) hk (some p) false
  cases hfp : findP p es.toList 0 with
  | none =>
    rw [hfp] at hv hfk
    have hnone : f p = none := by rw [← hv]; rfl
    refine ⟨setBlock w b (.map (es.push { key := .pointer (some p), val := v, born := clock }) (clock + 1)), ?_, ?_, es, clock, _, _, hb, rfl⟩
    · simp [Instr.mapUpdate, run_underlying ht, MapKept.run_getObj_map hb, hck, hfk, MapKept.run_setObj_map _ hb, setBlock]
    · refine ⟨_, _, heap_setBlock_same hb _, by simp [hnone, hn], ?_, ?_⟩
      · intro e he
        simp only [Array.toList_push, List.mem_append, List.mem_singleton] at he
        rcases he with he | rfl
        · obtain ⟨q, h1, h2⟩ := hks e he
          exact ⟨q, h1, plain_setBlock hb h2⟩
        · exact ⟨p, rfl, plain_setBlock hb hp⟩
      · intro q
        rw [Array.toList_push, List.find?_append]
        by_cases hqp : q = p
        · subst hqp
          have : es.toList.find? (fun e => isK q e.key) = none := by
            have := hf q; rw [hnone] at this
            simpa using this
          rw [this]; simp [isK]
        · have h0 : [({ key := .pointer (some p), val := v, born := clock } : MapEntry)].find? (fun e => isK q e.key) = none := by
            simp [isK]; exact fun e => hqp e.symm
          rw [h0]; simp [hqp, ← hf q]
  | some x =>
    rw [hfp] at hv hfk
    obtain ⟨j, u⟩ := x
    have hsome : f p = some u := by rw [← hv]; rfl
    obtain ⟨_, e, he, hke⟩ := findP_at p es.toList 0 j u hfp
    have hej : es[j]? = some e := by simpa using he
    have hkey : e.key = .pointer (some p) := by
      obtain ⟨q, hq, _⟩ := hks e (List.mem_of_getElem? he)
      rw [hq, isK_ptr] at hke
      rw [hq]; simp at hke; rw [hke]
    have hst : (Instr.keyThatStays (.pointer (some p)) (.pointer (some p))).run P w = .ok (.pointer (some p)) w := by
      simp [Instr.keyThatStays, Instr.sameBits]
    refine ⟨setBlock w b (.map (es.modify j fun e => { e with key := .pointer (some p), val := v }) clock), ?_, ?_, es, clock, _, _, hb, rfl⟩
    · simp [Instr.mapUpdate, run_underlying ht, MapKept.run_getObj_map hb, hck, hfk, hej, hkey, hst, MapKept.run_setObj_map _ hb, setBlock]
    · refine ⟨_, _, heap_setBlock_same hb _, by simp [hsome, hn], ?_, ?_⟩
      · intro e' he'
        have : (e'.key) ∈ (es.modify j fun e => { e with key := .pointer (some p), val := v }).toList.map (·.key) := List.mem_map.2 ⟨e', he', rfl⟩
        rw [modify_keys j _ (fun e2 h2 => by rw [hej] at h2; cases h2; exact hkey.symm)] at this
        obtain ⟨y, hy, ey⟩ := List.mem_map.1 this
        obtain ⟨q, h1, h2⟩ := hks y hy
        exact ⟨q, by rw [← ey]; exact h1, plain_setBlock hb h2⟩
      · intro q
        have := find_modify p q v es.toList 0 (j, u) hfp (.pointer (some p)) (by simp [isK]) (isK_self p)
        rw [Array.toList_modify]
        simp only [Nat.sub_zero] at this
        rw [this, hf q]

theorem PMap.made (w : World) : PMap (w.alloc (.map #[] 0)) w.heap.size 0 (fun _ => none) :=
  ⟨#[], 0, (heap_alloc w _).1, rfl, by simp, by simp⟩

theorem PMap.len (h : PMap w b n f) : ∃ es c, w.heap[b]? = some (.map es c) ∧ es.size = n := by
  obtain ⟨es, c, h1, h2, _⟩ := h
  exact ⟨es, c, h1, h2⟩

theorem MapTurned.heap {w' : World} (h : MapTurned w w' b) {k : Nat} (hk : k ≠ b) : w'.heap[k]? = w.heap[k]? := by
  obtain ⟨es, c, es', c', hb, rfl⟩ := h
  exact heap_setBlock_other hb _ hk

theorem MapTurned.cell {w' : World} (h : MapTurned w w' b) {p : Addr} (hp : p.block ≠ b) : w'.cell? p = w.cell? p := World.cell?_of_block (w := w) (h.heap hp)

theorem MapTurned.frozen {w' : World} (h : MapTurned w w' b) {p : Addr} (hp : p.block ≠ b) : w'.frozen? p = w.frozen? p := World.frozen?_of_block (w := w) (h.heap hp)

theorem MapTurned.size {w' : World} (h : MapTurned w w' b) : w'.heap.size = w.heap.size := by
  obtain ⟨es, c, es', c', hb, rfl⟩ := h
  simp [setBlock]

theorem MapTurned.plain {w' : World} (h : MapTurned w w' b) {p : Addr} (hp : Plain w p) : Plain w' p := by
  obtain ⟨es, c, es', c', hb, rfl⟩ := h
  exact plain_setBlock hb hp

theorem MapTurned.below {w' : World} (h : MapTurned w w' b) {B : Nat} (hB : B ≤ b) : Below B w w' := by
  have hs := h.size
  have hh := fun k (hk : k ≠ b) => h.heap hk
  obtain ⟨es, c, es', c', hb, rfl⟩ := h
  exact ⟨rfl, rfl, rfl, Nat.le_of_eq hs.symm, fun k hk => hh k (by omega)⟩

theorem PMap.kept {w' : World} (h : PMap w b n f) (hb : w'.heap[b]? = w.heap[b]?) (hpl : ∀ p, Plain w p → Plain w' p) : PMap w' b n f := by
  obtain ⟨es, c, h1, h2, h3, h4⟩ := h
  refine ⟨es, c, by rw [hb]; exact h1, h2, ?_, h4⟩
  intro e he
  obtain ⟨q, hq, hp⟩ := h3 e he
  exact ⟨q, hq, hpl q hp⟩

theorem lt_of_block {o : Obj} {k : Nat} (h : w.heap[k]? = some o) : k < w.heap.size := (Array.getElem?_eq_some_iff.1 h).1

theorem Plain.alloc {p : Addr} (h : Plain w p) (o : Obj) : Plain (w.alloc o) p := by
  obtain ⟨c, t, h⟩ := h
  exact ⟨c, t, by rw [(heap_alloc w o).2 _ (lt_of_block h)]; exact h⟩

theorem heap_setCell_at (b o : Nat) (v : Value) {c : Array Value} {t : TypeId} {m : Nat × Nat} (h : w.heap[b]? = some (.cells c t m)) : (w.setCell ⟨b, o, none⟩ v).heap[b]? = some (.cells (c.setIfInBounds o v) t m) := by
  simp [World.setCell, Array.getElem?_modify, h]

theorem heap_setCell_some (a : Addr) (v : Value) {c : Array Value} {t : TypeId} {m : Nat × Nat} (h : w.heap[a.block]? = some (.cells c t m)) : ∃ c', (w.setCell a v).heap[a.block]? = some (.cells c' t m) := by
  cases hs : a.spot with
  | none => exact ⟨c.setIfInBounds a.off v, by simp [World.setCell, Array.getElem?_modify, h, hs]⟩
  | some s => exact ⟨c, by simp [World.setCell, Array.getElem?_modify, h, hs]⟩

theorem Plain.setCell {p : Addr} (h : Plain w p) (a : Addr) (v : Value) : Plain (w.setCell a v) p := by
  obtain ⟨c, t, h⟩ := h
  by_cases e : p.block = a.block
  · rw [e] at h
    obtain ⟨c', h'⟩ := heap_setCell_some a v h
    exact ⟨_, _, by rw [e]; exact h'⟩
  · exact ⟨c, t, by rw [Below.heap_setCell _ _ _ _ e]; exact h⟩

theorem PMap.alloc (h : PMap w b n f) (o : Obj) : PMap (w.alloc o) b n f := by
  obtain ⟨es, c, h1, _⟩ := PMap.len h
  exact h.kept ((heap_alloc w o).2 _ (lt_of_block h1)) (fun p hp => hp.alloc o)

theorem PMap.setCell (h : PMap w b n f) (a : Addr) (hne : b ≠ a.block) (v : Value) : PMap (w.setCell a v) b n f :=
  h.kept (Below.heap_setCell _ _ _ _ hne) (fun _ hp => hp.setCell a v)

theorem Plain.new (w : World) (c : Array Value) (t : TypeId) {p : Addr} (hp : p.block = w.heap.size) : Plain (w.alloc (.cells c t)) p :=
  ⟨c, t, by rw [hp]; exact (heap_alloc w _).1⟩

theorem run_equalIn_ptr_same (d : Nat) (hk : P.underlying kt = some (.pointer kd)) (hi : P.info? kd = some i) (p : Addr) :
    (Op.equalIn (d + 1) kt (.pointer (some p)) (.pointer (some p))).run P w = .ok true w := by
  simp [Op.equalIn, run_underlying hk, sizeOf, typeInfo, hi, run_sameAddr_same]

/-- 'p == p', 'p != p': one pointer twice. -/
theorem run_eql_ptr_same (hk : P.underlying kt = some (.pointer kd)) (hi : P.info? kd = some i) (p : Addr) :
    (binOp .eql kt (.pointer (some p)) (.pointer (some p))).run P w = .ok (.bool true) w := by
  simp only [binOp]
  simp [Op.equal, Op.maxDepth, run_equalIn_ptr_same 9999 hk hi p]
theorem run_neq_ptr_same (hk : P.underlying kt = some (.pointer kd)) (hi : P.info? kd = some i) (p : Addr) :
    (binOp .neq kt (.pointer (some p)) (.pointer (some p))).run P w = .ok (.bool false) w := by
  simp only [binOp]
  simp [Op.equal, Op.maxDepth, run_equalIn_ptr_same 9999 hk hi p]
end
end Go.Proofs.Ybulkozg
