/-
  THE CONTRACTS of member (7) of a writer with a sink.
-/
import Derived.Test.YbulkpcmNewlineF
namespace Go.Proofs.Ybulkpcm
open Go.RowKit Go.MapKept

theorem Flushed.after {w w1 w2 : World} {J Z : Nat} {fail buf buf1 pad pad1 : Value} {bs : List Int} (hs : Stp w w1 J buf pad buf1 pad1) (h : Flushed w1 w2 Z fail bs (Mine J buf1 pad1)) : Flushed w w2 Z fail bs (Mine J buf pad) := by
  have hsz := hs.fr.size
  obtain ⟨⟨g, cg, ca, cn, cc, h1, h2, h3, h4⟩, hfr⟩ := h
  refine ⟨⟨g, cg, ca, cn, cc, h1, h2, h3.base hsz, by omega⟩, (hs.fr.mono (T := fun k => k = Z ∨ Mine J buf pad k) (fun _ _ m => .inr m)).trans hfr ?_⟩
  intro i hi hm
  rcases hm with hm | rfl | hm | hm
  · exact .inl hm
  · exact .inr (.inl rfl)
  · rcases hs.lb i hm with e | e
    · exact .inr (.inr (.inl e))
    · omega
  · rcases hs.lp i hm with e | e
    · exact .inr (.inr (.inr e))
    · omega

theorem newline_small (B J Z : Nat) (ba : Option Addr) (bn bc : Nat) (err : Value) (ind : Bool) (d : Nat) (emp : Bool) (pad : Value) (bs : List Int) (p : Nat) (w : World) (hbn : bn < 65536) (hd : d ≤ 255) (hp : p ≤ 600) (hbl : bs.length ≤ 100000) (hB : B ≤ w.heap.size)
    (h : JW w B J (.iface 35 (.pointer (some ⟨Z, 0, none⟩))) (.slice ba bn bc) err ind d emp pad bs (List.replicate p 32)) :
    Calls Yba.prog 12 #[.pointer (some ⟨J, 0, none⟩)] w fun e w' => e = .returned (.tuple #[]) ∧ ∃ buf' pad', JW w' B J (.iface 35 (.pointer (some ⟨Z, 0, none⟩))) buf' err ind d emp pad' (bs ++ lineOf ind d) (List.replicate (padOf ind p d) 32) ∧ Stp w w' J (.slice ba bn bc) pad buf' pad' := by
  cases ind
  · refine (newline_small_no B J Z ba bn bc err d emp pad bs _ w hbn h).mono ?_
    rintro e w' ⟨rfl, rfl⟩
    exact ⟨rfl, _, pad, by simpa [lineOf, padOf] using h, Stp.refl _ _ _ _⟩
  · refine (newline_small_yes B J Z ba bn bc err d emp pad bs p w hbn hd hp hbl hB h).mono ?_
    rintro e w' ⟨rfl, b', p', h1, h2⟩
    exact ⟨rfl, b', p', by simpa [lineOf, padOf] using h1, h2⟩

theorem newline_pre (B J Z : Nat) (ba : Option Addr) (bn bc : Nat) (et : TypeId) (ev : Value) (ind : Bool) (d : Nat) (emp : Bool) (pad : Value) (bs : List Int) (p : Nat) (w : World) (hbn : 65536 ≤ bn) (hd : d ≤ 255) (hp : p ≤ 600) (hB : B ≤ w.heap.size)
    (h : JW w B J (.iface 35 (.pointer (some ⟨Z, 0, none⟩))) (.slice ba bn bc) (.iface et ev) ind d emp pad bs (List.replicate p 32)) :
    Calls Yba.prog 12 #[.pointer (some ⟨J, 0, none⟩)] w fun e w' => e = .returned (.tuple #[]) ∧ ∃ buf' pad', JW w' B J (.iface 35 (.pointer (some ⟨Z, 0, none⟩))) buf' (.iface et ev) ind d emp pad' (lineOf ind d) (List.replicate (padOf ind p d) 32) ∧ Stp w w' J (.slice ba bn bc) pad buf' pad' := by
  cases ind
  · refine (newline_pre_no B J Z ba bn bc et ev d emp pad bs _ w hbn h).mono ?_
    rintro e w' ⟨rfl, h1, h2⟩
    exact ⟨rfl, _, pad, by simpa [lineOf, padOf] using h1, h2⟩
  · refine (newline_pre_yes B J Z ba bn bc et ev d emp pad bs p w hbn hd hp hB h).mono ?_
    rintro e w' ⟨rfl, b', p', h1, h2⟩
    exact ⟨rfl, b', p', by simpa [lineOf, padOf] using h1, h2⟩

theorem newline_go (B J Z : Nat) (ba : Option Addr) (bn bc : Nat) (fail : Value) (ind : Bool) (d : Nat) (emp : Bool) (pad : Value) (bs : List Int) (p : Nat) (w : World) (hbn : 65536 ≤ bn) (hbs : bs.length = bn) (hm : bn ≤ 100000) (hf : fail = .nilIface ∨ ∃ t x, fail = .iface t x)
    (hZ : Sink w Z (.slice none 0 0) fail) (hd : d ≤ 255) (hp : p ≤ 600) (hB : B ≤ w.heap.size)
    (h : JW w B J (.iface 35 (.pointer (some ⟨Z, 0, none⟩))) (.slice ba bn bc) .nilIface ind d emp pad bs (List.replicate p 32)) :
    Calls Yba.prog 12 #[.pointer (some ⟨J, 0, none⟩)] w fun e w' => e = .returned (.tuple #[]) ∧ ∃ buf' pad', JW w' B J (.iface 35 (.pointer (some ⟨Z, 0, none⟩))) buf' fail ind d emp pad' (lineOf ind d) (List.replicate (padOf ind p d) 32) ∧ Flushed w w' Z fail bs (Mine J (.slice ba bn bc) pad) := by
  cases ind
  · refine (newline_go_no B J Z ba bn bc fail d emp pad bs _ w hbn hbs hm hf hZ h).mono ?_
    rintro e w' ⟨rfl, h1, h2⟩
    exact ⟨rfl, _, pad, by simpa [lineOf, padOf] using h1, h2⟩
  · refine (newline_go_yes B J Z ba bn bc fail d emp pad bs p w hbn hbs hm hf hZ hd hp hB h).mono ?_
    rintro e w' ⟨rfl, b', p', h1, h2⟩
    exact ⟨rfl, b', p', by simpa [lineOf, padOf] using h1, h2⟩

set_option maxRecDepth 100000 in
set_option maxHeartbeats 1000000 in
theorem member_small (B J Z : Nat) (ba : Option Addr) (bn bc : Nat) (err : Value) (ind : Bool) (d : Nat) (emp : Bool) (pad : Value) (bs : List Int) (p : Nat) (w : World) (hbs : bs.length = bn) (hbn : bn < 65535) (hd : d ≤ 255) (hp : p ≤ 600) (hB : B ≤ w.heap.size)
    (h : JW w B J (.iface 35 (.pointer (some ⟨Z, 0, none⟩))) (.slice ba bn bc) err ind d emp pad bs (List.replicate p 32)) :
    Calls Yba.prog 7 #[.pointer (some ⟨J, 0, none⟩)] w fun e w' => e = .returned (.tuple #[]) ∧ ∃ buf' pad', JW w' B J (.iface 35 (.pointer (some ⟨Z, 0, none⟩))) buf' err ind d false pad' (bs ++ commaOf emp ++ lineOf ind d) (List.replicate (padOf ind p d) 32) ∧ Stp w w' J (.slice ba bn bc) pad buf' pad' := by
  obtain ⟨c0, c1, c2, c3, c4, c5, c6⟩ := h.cells
  have hf5 := h.free 5
  cases emp
  · have hle : bs.length + [(44 : Int)].length = bn + 1 := by simp; omega
    go_enter Yba.func7, Yba.ntmps7
    go_wp2_with (first | (at_builtin; refine wpList_append_bytes rfl _ _ rfl B _ _ _ [44] (h.ob.alloc _) (src_one _ _) rfl rfl (bn + 1) hle (by omega) (by simp; omega) ?_; intro a' c' w1 ho1 hg1 hl1; obtain ⟨e0, e1, e2, e3, e4, e5, e6, ef⟩ := (h.alloc _).beside hg1 h.buf_ne) | fail)
    have hj2 := ((h.alloc _).setBuf ho1 hg1 hl1).setEmpty false
    have hs2 := ((Stp.alloc w (.cells #[.int .u8 44] 5) J (.slice ba bn bc) pad).trans (Stp.setBuf (J := J) (pad := pad) hg1 hl1)).trans (Stp.setEmpty _ J 5 (.bool false) _ _)
    refine (newline_small B J Z a' (bn + 1) c' err ind d false pad (bs ++ [44]) p _ (by omega) hd hp (by simp; omega) (by have := hs2.fr.size; omega) ?qj).mono ?_
    case qj => exact hj2
    rintro e w3 ⟨rfl, b', p', h1, h2⟩
    go_wp2
    go_end0
    exact ⟨rfl, b', p', by simpa [commaOf] using h1, hs2.trans h2⟩
  · go_enter Yba.func7, Yba.ntmps7
    go_wp2_with fail
    have hj2 := h.setEmpty false
    have hs2 := Stp.setEmpty w J 5 (.bool false) (.slice ba bn bc) pad
    refine (newline_small B J Z ba bn bc err ind d false pad bs p _ (by omega) hd hp (by omega) (by have := hs2.fr.size; omega) ?qj).mono ?_
    case qj => exact hj2
    rintro e w3 ⟨rfl, b', p', h1, h2⟩
    go_wp2
    go_end0
    exact ⟨rfl, b', p', by simpa [commaOf] using h1, hs2.trans h2⟩

set_option maxRecDepth 100000 in
set_option maxHeartbeats 1000000 in
theorem member_pre (B J Z : Nat) (ba : Option Addr) (bn bc : Nat) (et : TypeId) (ev : Value) (ind : Bool) (d : Nat) (emp : Bool) (pad : Value) (bs : List Int) (p : Nat) (w : World) (hbs : bs.length = bn) (hbn : 65536 ≤ bn) (hm : bn ≤ 99999) (hd : d ≤ 255) (hp : p ≤ 600) (hB : B ≤ w.heap.size)
    (h : JW w B J (.iface 35 (.pointer (some ⟨Z, 0, none⟩))) (.slice ba bn bc) (.iface et ev) ind d emp pad bs (List.replicate p 32)) :
    Calls Yba.prog 7 #[.pointer (some ⟨J, 0, none⟩)] w fun e w' => e = .returned (.tuple #[]) ∧ ∃ buf' pad', JW w' B J (.iface 35 (.pointer (some ⟨Z, 0, none⟩))) buf' (.iface et ev) ind d false pad' (lineOf ind d) (List.replicate (padOf ind p d) 32) ∧ Stp w w' J (.slice ba bn bc) pad buf' pad' := by
  obtain ⟨c0, c1, c2, c3, c4, c5, c6⟩ := h.cells
  have hf5 := h.free 5
  cases emp
  · have hle : bs.length + [(44 : Int)].length = bn + 1 := by simp; omega
    go_enter Yba.func7, Yba.ntmps7
    go_wp2_with (first | (at_builtin; refine wpList_append_bytes rfl _ _ rfl B _ _ _ [44] (h.ob.alloc _) (src_one _ _) rfl rfl (bn + 1) hle (by omega) (by simp; omega) ?_; intro a' c' w1 ho1 hg1 hl1; obtain ⟨e0, e1, e2, e3, e4, e5, e6, ef⟩ := (h.alloc _).beside hg1 h.buf_ne) | fail)
    have hj2 := ((h.alloc _).setBuf ho1 hg1 hl1).setEmpty false
    have hs2 := ((Stp.alloc w (.cells #[.int .u8 44] 5) J (.slice ba bn bc) pad).trans (Stp.setBuf (J := J) (pad := pad) hg1 hl1)).trans (Stp.setEmpty _ J 5 (.bool false) _ _)
    refine (newline_pre B J Z a' (bn + 1) c' et ev ind d false pad (bs ++ [44]) p _ (by omega) hd hp (by have := hs2.fr.size; omega) ?qj).mono ?_
    case qj => exact hj2
    rintro e w3 ⟨rfl, b', p', h1, h2⟩
    go_wp2
    go_end0
    exact ⟨rfl, b', p', h1, hs2.trans h2⟩
  · go_enter Yba.func7, Yba.ntmps7
    go_wp2_with fail
    have hj2 := h.setEmpty false
    have hs2 := Stp.setEmpty w J 5 (.bool false) (.slice ba bn bc) pad
    refine (newline_pre B J Z ba bn bc et ev ind d false pad bs p _ (by omega) hd hp (by have := hs2.fr.size; omega) ?qj).mono ?_
    case qj => exact hj2
    rintro e w3 ⟨rfl, b', p', h1, h2⟩
    go_wp2
    go_end0
    exact ⟨rfl, b', p', h1, hs2.trans h2⟩

set_option maxRecDepth 100000 in
set_option maxHeartbeats 1000000 in
theorem member_go (B J Z : Nat) (ba : Option Addr) (bn bc : Nat) (fail : Value) (ind : Bool) (d : Nat) (emp : Bool) (pad : Value) (bs : List Int) (p : Nat) (w : World) (hbs : bs.length = bn) (hbn : 65536 ≤ bn) (hm : bn ≤ 99999) (hf : fail = .nilIface ∨ ∃ t x, fail = .iface t x) (hZ : Sink w Z (.slice none 0 0) fail) (hd : d ≤ 255) (hp : p ≤ 600) (hB : B ≤ w.heap.size)
    (h : JW w B J (.iface 35 (.pointer (some ⟨Z, 0, none⟩))) (.slice ba bn bc) .nilIface ind d emp pad bs (List.replicate p 32)) :
    Calls Yba.prog 7 #[.pointer (some ⟨J, 0, none⟩)] w fun e w' => e = .returned (.tuple #[]) ∧ ∃ buf' pad', JW w' B J (.iface 35 (.pointer (some ⟨Z, 0, none⟩))) buf' fail ind d false pad' (lineOf ind d) (List.replicate (padOf ind p d) 32) ∧ Flushed w w' Z fail (bs ++ commaOf emp) (Mine J (.slice ba bn bc) pad) := by
  obtain ⟨c0, c1, c2, c3, c4, c5, c6⟩ := h.cells
  have hf5 := h.free 5
  have HF : Hid _ := hf
  clear hf
  cases emp
  · have hle : bs.length + [(44 : Int)].length = bn + 1 := by simp; omega
    go_enter Yba.func7, Yba.ntmps7
    go_wp2_with (first | (at_builtin; refine wpList_append_bytes rfl _ _ rfl B _ _ _ [44] (h.ob.alloc _) (src_one _ _) rfl rfl (bn + 1) hle (by omega) (by simp; omega) ?_; intro a' c' w1 ho1 hg1 hl1; obtain ⟨e0, e1, e2, e3, e4, e5, e6, ef⟩ := (h.alloc _).beside hg1 h.buf_ne) | fail)
    have hj2 := ((h.alloc _).setBuf ho1 hg1 hl1).setEmpty false
    have hs2 := ((Stp.alloc w (.cells #[.int .u8 44] 5) J (.slice ba bn bc) pad).trans (Stp.setBuf (J := J) (pad := pad) hg1 hl1)).trans (Stp.setEmpty _ J 5 (.bool false) _ _)
    refine (newline_go B J Z a' (bn + 1) c' fail ind d false pad (bs ++ [44]) p _ (by omega) (by simp; omega) (by omega) HF.out ?qz hd hp (by have := hs2.fr.size; omega) ?qj).mono ?_
    case qz => exact hZ.kept (hs2.fr.block Z hZ.lt (fun m => h.not_sink hZ m rfl))
    case qj => exact hj2
    rintro e w3 ⟨rfl, b', p', h1, h2⟩
    go_wp2
    go_end0
    exact ⟨rfl, b', p', h1, by simpa [commaOf] using Flushed.after hs2 h2⟩
  · go_enter Yba.func7, Yba.ntmps7
    go_wp2_with fail
    have hj2 := h.setEmpty false
    have hs2 := Stp.setEmpty w J 5 (.bool false) (.slice ba bn bc) pad
    refine (newline_go B J Z ba bn bc fail ind d false pad bs p _ (by omega) hbs (by omega) HF.out ?qz hd hp (by have := hs2.fr.size; omega) ?qj).mono ?_
    case qz => exact hZ.kept (hs2.fr.block Z hZ.lt (fun m => h.not_sink hZ m rfl))
    case qj => exact hj2
    rintro e w3 ⟨rfl, b', p', h1, h2⟩
    go_wp2
    go_end0
    exact ⟨rfl, b', p', h1, by simpa [commaOf] using Flushed.after hs2 h2⟩

end Go.Proofs.Ybulkpcm
