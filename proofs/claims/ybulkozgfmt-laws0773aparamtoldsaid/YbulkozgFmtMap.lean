import Derived.MapKept
import Derived.ChangeMaps4
import Derived.ChangeMaps5
import Derived.Below
import Derived.WalkKit
/-!
A map keyed by strings, as far as one key goes: what a store and a look-up do. Own work over Derived/MapKept.
-/
namespace Go.Proofs.YbulkozgFmt
open Go Go.MapKept Go.ChangeMaps Go.RowKit

/-- BLOCK b IS A MAP KEYED BY STRINGS WHICH HOLDS o AT s. -/
def KMap (w : World) (b : Nat) (s : ByteArray) (o : Option Value) : Prop :=
  ∃ (es : Array MapEntry) (clock : Nat), w.heap[b]? = some (.map es clock) ∧ Stamped es clock ∧ (∀ x ∈ es.toList, IsKey .string x.key) ∧
    match o with
    | none => ∀ x ∈ es.toList, x.key ≠ .string s
    | some v => ∃ (i : Nat) (e : MapEntry), es[i]? = some e ∧ e.key = .string s ∧ e.val = v

variable {P : Program} {w : World} {t kt et : TypeId} {b : Nat} {s : ByteArray} {o : Option Value}

theorem KMap.look (h : KMap w b s o) (ht : P.underlying t = some (.map kt et)) (hk : P.underlying kt = some .string)
    {z : Value} (hz : (zeroValue et).run P w = .ok z w) :
    (Instr.lookup t (.map (some b)) (.string s) true).run P w = .ok (.tuple #[o.getD z, .bool o.isSome]) w := by
  obtain ⟨es, clock, hb, hst, hks, ho⟩ := h
  have hkey : IsKey .string (.string s) := trivial
  rcases findNow_spec hkey es.toList 0 hks with ⟨h1, h2⟩ | ⟨j, e, h1, h2, h3⟩
  · cases o with
    | none => simp [Instr.lookup, run_underlying ht, MapKept.run_getObj_map hb, run_checkKey hk hkey, run_findKey hk h1, hz, Result.andThen]
    | some v =>
      obtain ⟨i, e, he, hke, _⟩ := ho
      exact absurd hke (h2 e (by rw [Array.mem_toList_iff]; exact Array.mem_of_getElem? he))
  · have hej : es[j]? = some e := by simpa using h2
    cases o with
    | none => exact absurd h3 (ho e (by rw [Array.mem_toList_iff]; exact Array.mem_of_getElem? hej))
    | some v =>
      obtain ⟨i, e', he', hke, rfl⟩ := ho
      have hij : i = j := by
        have hn := hst.2.2
        obtain ⟨hi, hie⟩ := Array.getElem?_eq_some_iff.1 he'
        obtain ⟨hj, hje⟩ := Array.getElem?_eq_some_iff.1 hej
        refine (List.getElem_inj (xs := es.toList.map (·.key)) (h₀ := by simpa using hi) (h₁ := by simpa using hj) hn).1 ?_
        simp [hie, hje, hke, h3]
      subst hij
      rw [hej] at he'
      cases he'
      simp [Instr.lookup, run_underlying ht, MapKept.run_getObj_map hb, run_checkKey hk hkey, run_findKey hk h1, Result.andThen]

theorem KMap.store (h : KMap w b s o) (ht : P.underlying t = some (.map kt et)) (hk : P.underlying kt = some .string) (k : ByteArray) (v : Value) :
    ∃ es' c', (Instr.mapUpdate t (.map (some b)) (.string k) v).run P w = .ok () (setBlock w b (.map es' c')) ∧ KMap (setBlock w b (.map es' c')) b s (if k = s then some v else o) := by
  obtain ⟨es, clock, hb, hst, hks, ho⟩ := h
  have hkey : IsKey .string (.string k) := trivial
  rcases findNow_spec hkey es.toList 0 hks with ⟨h1, h2⟩ | ⟨j, e, h1, h2, h3⟩
  · refine ⟨es.push { key := .string k, val := v, born := clock }, clock + 1, ?_, ?_⟩
    · simp [Instr.mapUpdate, run_underlying ht, MapKept.run_getObj_map hb, run_checkKey hk hkey, run_findKey hk h1, MapKept.run_setObj_map _ hb, Result.andThen, setBlock]
    · refine ⟨_, _, heap_setBlock_same hb _, stamped_push hst h2, ?_, ?_⟩
      · intro x hx
        simp only [Array.toList_push, List.mem_append, List.mem_singleton] at hx
        rcases hx with hx | rfl
        · exact hks x hx
        · trivial
      · by_cases hks' : k = s
        · rw [if_pos hks']
          exact ⟨es.size, { key := .string k, val := v, born := clock }, by simp, by rw [← hks'], rfl⟩
        · rw [if_neg hks']
          cases o with
          | none =>
            intro x hx
            simp only [Array.toList_push, List.mem_append, List.mem_singleton] at hx
            rcases hx with hx | rfl
            · exact ho x hx
            · intro q; cases q; exact hks' rfl
          | some u =>
            obtain ⟨i, e, he, hke, hve⟩ := ho
            refine ⟨i, e, ?_, hke, hve⟩
            have hi := (Array.getElem?_eq_some_iff.1 he).1
            rw [Array.getElem?_push, if_neg (Nat.ne_of_lt hi)]; exact he
  · have hj : es[j]? = some e := by simpa using h2
    have hkey' : ∀ e', es[j]? = some e' → ({ e' with key := .string k, val := v } : MapEntry).key = e'.key := fun e' he' => by rw [hj] at he'; cases he'; exact h3.symm
    refine ⟨es.modify j fun e => { e with key := .string k, val := v }, clock, ?_, ?_⟩
    · simp [Instr.mapUpdate, run_underlying ht, MapKept.run_getObj_map hb, run_checkKey hk hkey, run_findKey hk h1, hj, h3, run_keyThatStays hkey, MapKept.run_setObj_map _ hb, Result.andThen, setBlock]
    · refine ⟨_, _, heap_setBlock_same hb _, stamped_modify hst _ _ (fun _ _ => rfl) (fun e' _ he' => hkey' e' he'), isKey_modify hks _ _ hkey', ?_⟩
      by_cases hks' : k = s
      · rw [if_pos hks']
        refine ⟨j, { e with key := .string k, val := v }, ?_, by rw [← hks'], rfl⟩
        rw [Array.getElem?_modify]; simp [hj]
      · rw [if_neg hks']
        cases o with
        | none =>
          intro x hx
          have : x.key ∈ (es.modify j fun e => { e with key := .string k, val := v }).toList.map (·.key) := List.mem_map.2 ⟨x, hx, rfl⟩
          rw [modify_keys j _ hkey'] at this
          obtain ⟨y, hy, ey⟩ := List.mem_map.1 this
          rw [← ey]; exact ho y hy
        | some u =>
          obtain ⟨i, e', he', hke, hve⟩ := ho
          have hne : j ≠ i := by
            intro q; subst q; rw [hj] at he'; cases he'
            rw [h3] at hke; cases hke; exact hks' rfl
          refine ⟨i, e', ?_, hke, hve⟩
          rw [Array.getElem?_modify, if_neg hne]; exact he'

theorem KMap.made (w : World) (s : ByteArray) : KMap (w.alloc (.map #[] 0)) w.heap.size s none :=
  ⟨#[], 0, (heap_alloc w _).1, stamped_empty 0, by simp, by simp⟩

theorem KMap.kept {w' : World} (h : KMap w b s o) (hb : w'.heap[b]? = w.heap[b]?) : KMap w' b s o := by
  obtain ⟨es, c, h1, h2⟩ := h
  exact ⟨es, c, by rw [hb]; exact h1, h2⟩

theorem KMap.lt (h : KMap w b s o) : b < w.heap.size := by
  obtain ⟨es, c, h1, _⟩ := h
  exact (Array.getElem?_eq_some_iff.1 h1).1

theorem KMap.below (h : KMap w b s o) {B : Nat} (hB : B ≤ b) (es' : Array MapEntry) (c' : Nat) : Below B w (setBlock w b (.map es' c')) := by
  obtain ⟨es, c, h1, _⟩ := h
  exact ⟨rfl, rfl, rfl, by simp [setBlock], fun k hk => heap_setBlock_other h1 _ (by omega)⟩

end Go.Proofs.YbulkozgFmt
