/-
  THE CONTRACT of member (7) where nothing is handed on.
-/
import Derived.Test.YbulkpcmNewline
namespace Go.Proofs.Ybulkpcm
open Go.RowKit

/-- How long the pad is behind a line; what goes ahead of a member. -/
def padOf (ind : Bool) (p d : Nat) : Nat := if ind then max p (2 * d) else p
def commaOf (emp : Bool) : List Int := if emp then [] else [44]

/-- newline of a writer without 'dst'. -/
theorem newline_nil (B J : Nat) (buf err : Value) (ind : Bool) (d : Nat) (emp : Bool) (pad : Value) (bs : List Int) (p : Nat) (w : World) (hd : d ≤ 255) (hp : p ≤ 600) (hbl : bs.length ≤ 100000) (hB : B ≤ w.heap.size)
    (h : JW w B J .nilIface buf err ind d emp pad bs (List.replicate p 32)) :
    Calls Yba.prog 12 #[.pointer (some ⟨J, 0, none⟩)] w fun e w' => e = .returned (.tuple #[]) ∧ ∃ buf' pad', JW w' B J .nilIface buf' err ind d emp pad' (bs ++ lineOf ind d) (List.replicate (padOf ind p d) 32) ∧ Stp w w' J buf pad buf' pad' := by
  cases ind
  · refine (newline_no B J buf err d emp pad bs _ w h).mono ?_
    rintro e w' ⟨rfl, rfl⟩
    exact ⟨rfl, buf, pad, by simpa [lineOf, padOf] using h, Stp.refl _ _ _ _⟩
  · refine (newline_yes B J buf err d emp pad bs p w hd hp hbl hB h).mono ?_
    rintro e w' ⟨rfl, b', p', h1, h2⟩
    exact ⟨rfl, b', p', by simpa [lineOf, padOf] using h1, h2⟩

set_option maxRecDepth 100000 in
set_option maxHeartbeats 1000000 in
theorem member_nil (B J : Nat) (buf err : Value) (ind : Bool) (d : Nat) (emp : Bool) (pad : Value) (bs : List Int) (p : Nat) (w : World) (hd : d ≤ 255) (hp : p ≤ 600) (hbl : bs.length ≤ 99999) (hB : B ≤ w.heap.size)
    (h : JW w B J .nilIface buf err ind d emp pad bs (List.replicate p 32)) :
    Calls Yba.prog 7 #[.pointer (some ⟨J, 0, none⟩)] w fun e w' => e = .returned (.tuple #[]) ∧ ∃ buf' pad', JW w' B J .nilIface buf' err ind d false pad' (bs ++ commaOf emp ++ lineOf ind d) (List.replicate (padOf ind p d) 32) ∧ Stp w w' J buf pad buf' pad' := by
  obtain ⟨c0, c1, c2, c3, c4, c5, c6⟩ := h.cells
  have hf5 := h.free 5
  cases emp
  · have hle : bs.length + [(44 : Int)].length = bs.length + 1 := by simp
    go_enter Yba.func7, Yba.ntmps7
    go_wp2_with (first | (at_builtin; refine wpList_append_bytes rfl _ _ rfl B _ _ _ [44] (h.ob.alloc _) (src_one _ _) rfl rfl (bs.length + 1) hle (by omega) (by simp; omega) ?_; intro a' c' w1 ho1 hg1 hl1; obtain ⟨e0, e1, e2, e3, e4, e5, e6, ef⟩ := (h.alloc _).beside hg1 h.buf_ne) | fail)
    have hj2 := ((h.alloc _).setBuf ho1 hg1 hl1).setEmpty false
    have hs2 := ((Stp.alloc w (.cells #[.int .u8 44] 5) J buf pad).trans (Stp.setBuf (J := J) (pad := pad) hg1 hl1)).trans (Stp.setEmpty _ J 5 (.bool false) _ _)
    refine (newline_nil B J (.slice a' (bs.length + 1) c') err ind d false pad (bs ++ [44]) p _ hd hp (by simp; omega) (by have := hs2.fr.size; omega) ?hj).mono ?_
    case hj => exact hj2
    rintro e w3 ⟨rfl, b', p', h1, h2⟩
    go_wp2
    go_end0
    exact ⟨rfl, b', p', by simpa [commaOf] using h1, hs2.trans h2⟩
  · go_enter Yba.func7, Yba.ntmps7
    go_wp2_with fail
    have hj2 := h.setEmpty false
    have hs2 := Stp.setEmpty w J 5 (.bool false) buf pad
    refine (newline_nil B J buf err ind d false pad bs p _ hd hp (by omega) (by have := hs2.fr.size; omega) ?hj).mono ?_
    case hj => exact hj2
    rintro e w3 ⟨rfl, b', p', h1, h2⟩
    go_wp2
    go_end0
    exact ⟨rfl, b', p', by simpa [commaOf] using h1, hs2.trans h2⟩
end Go.Proofs.Ybulkpcm
