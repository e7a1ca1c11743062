import Derived.Test.YbulkozgFmtLaw
import Derived.Test.YbulkozgFmtRows
import Derived.Test.YbulkozgFmtTie
import Derived.Test.YbulkozgFmtCards
import Derived.WalkKit
import Derived.ProofKit
import Derived.OpenShut
import Derived.ShutString
import Derived.ChangeOld
import Derived.Below
import Derived.Carry
import Derived.LaidHandle
import Derived.SliceStrings
import Derived.Stop.Joined
import Derived.Stop.JoinedAt
import Derived.Stop.JoinedTold
import Derived.Stop.LaidErr
import Derived.SevenTiedAt
/-!
THE PROOF OF 'Rows.LawS0773AParamToldSaid' ('example.com/creel/creel.LawS0773AParam'): the told and tied card.
-/
namespace Go.Proofs.YbulkozgFmt.lawS0773AParam
open Go.ChangeShapes Go.WideShapes Go.ChangeAt Go.RowKit Go.Kit
open Go.ChangeMaps (open_string shut_string)
open Go.Extern.Stop Go.Stop Go.Extern
set_option linter.unusedVariables false

theorem own : ownKnob Ybaf.prog.godebug = none := by kernel_rfl
theorem laidOut : laidOutB Ybaf.prog = true := by kernel_rfl
theorem stops : Ybaf.pinned.checked.prog.stops = Rows.lawS0773AParamRow.stops := by kernel_rfl
theorem stopKnobs : Ybaf.pinned.checked.prog.stopKnobs = [] := by kernel_rfl
theorem quiet (os : Os) : Stop.quiet Ybaf.pinned.checked.prog os := by
  intro k hk
  rw [stopKnobs] at hk
  cases hk

/-! ### The listed variables (their names, and the names of their types, off the given row) -/
/-- The name under which a datum of an interface stands. -/
def nameIn : DataW Unit → String
  | .iface n _ => n
  | _ => ""
def nN : String := Rows.lawS0773AParamSpec.vars.getD 0 ""
def nC : String := Rows.lawS0773AParamSpec.vars.getD 1 ""
def nT : String := Rows.lawS0773AParamRow.named.getD 2 ""
def nE : String := nameIn Rows.laid_example_com_creel_creel_ErrNotFound
def nR : String := nameIn Rows.laid_errors_errorType
theorem gN : Ybaf.prog.globalNamed nN = some 0 := by kernel_rfl
theorem gC : Ybaf.prog.globalNamed nC = some 1 := by kernel_rfl
theorem gT : Ybaf.prog.globalNamed nT = some 2 := by kernel_rfl
theorem gNType : (Ybaf.prog.globals[0]?).map (·.type) = some 62 := by kernel_rfl
theorem gCType : (Ybaf.prog.globals[1]?).map (·.type) = some 62 := by kernel_rfl
theorem cells135 : Ybaf.prog.cellsOf 135 = 1 := by kernel_rfl
theorem cells9 : Ybaf.prog.cellsOf 9 = 1 := by kernel_rfl
theorem oneE : ((List.range Ybaf.prog.types.size).all fun u => Ybaf.prog.typeName? 3 u != some nE || u == 133) = true := by kernel_rfl
theorem oneX (x : String) (hx : x = nE) : ((List.range Ybaf.prog.types.size).all fun u => Ybaf.prog.typeName? 3 u != some x || u == 133) = true := by
  subst hx; exact oneE
theorem row133 (u : TypeId) (h : Ybaf.prog.typeName? 3 u = some nE) : u = 133 :=
  typeName_ptr_named (P := Ybaf.prog) (nm := "errors.errorString") (oneX _ (by decide)) (by kernel_rfl) (by decide) u (h.trans (congrArg some (by decide)))
theorem rt : (Ybaf.prog.cutTypes.find? (·.1 == nR)).map (·.2) = some 99 := by kernel_rfl
theorem oneRow : ((List.range 220).filter fun t => Ybaf.prog.rowNamed t [101, 114, 114, 111, 114]) = [62] := by kernel_rfl
theorem sizeT : Ybaf.prog.types.size = 220 := by kernel_rfl

abbrev laidErrs : List (String × DataW Unit) := [(nN, Rows.laid_example_com_creel_creel_ErrNotFound), (nC, Rows.laid_example_com_creel_creel_ErrClosed)]
theorem laid_split {W : World} (h : laidMetH Ybaf.prog Rows.lawS0773AParamRow.laid W) : laidMet Ybaf.prog laidErrs W ∧ handlesMet Ybaf.prog [(nT, Rows.laid_errors_errorType)] W := h

theorem handle_of_laid {W : World} (h : handlesMet Ybaf.prog [(nT, Rows.laid_errors_errorType)] W) : W.cell? ⟨2, 0, none⟩ = some (.iface 99 (.agg #[.pointer (some ⟨3, 62, none⟩)])) := by
  obtain ⟨name, u, ty, e1, e2, e3, e4, e5⟩ := h _ (List.mem_singleton.2 rfl)
  have en : name = [101, 114, 114, 111, 114] := (Option.some.inj e1).symm
  subst en
  obtain rfl := Option.some.inj (rt.symm.trans e2)
  have hm : ty ∈ (List.range 220).filter fun t => Ybaf.prog.rowNamed t [101, 114, 114, 111, 114] := List.mem_filter.2 ⟨List.mem_range.2 (by rw [← sizeT]; exact e3), e4⟩
  rw [oneRow] at hm
  obtain rfl := List.mem_singleton.1 hm
  have hh : typeHandle Ybaf.prog 62 = .pointer (some ⟨3, 62, none⟩) := by kernel_rfl
  rw [hh] at e5
  simpa using World.var?_cell gT e5 0

/-! ### One start that fits -/
def low (P : Program) : Nat := (World.holding P default ⟨#[], #[], []⟩).heap.size
def put (h : Array Obj) (g : Nat) (cs : Array Value) : Array Obj := h.modify g fun
  | .cells _ t frozen => .cells cs t frozen
  | o => o
def laidWorld (P : Program) (os : Os) : World :=
  let w0 := World.holding P os ⟨#[.cells #[.string ⟨#[99, 114, 101, 101, 108, 58, 32, 110, 111, 116, 32, 102, 111, 117, 110, 100]⟩] 135, .cells #[.string ⟨#[99, 114, 101, 101, 108, 58, 32, 99, 108, 111, 115, 101, 100]⟩] 135], #[], []⟩
  { w0 with heap := put (put (put w0.heap 0 #[.iface 133 (.pointer (some ⟨low P, 0, none⟩))]) 1 #[.iface 133 (.pointer (some ⟨low P + 1, 0, none⟩))]) 2 #[.iface 99 (.agg #[.pointer (some ⟨3, 62, none⟩)])] }
theorem laidErrs_met (os : Os) (args : Array Value) : laidMet Ybaf.prog laidErrs ((laidWorld Ybaf.prog os).forCall (fun _ _ => 0) ⟨#[], args, []⟩).memory :=
  laidMet_of_run (ps := [.cell 0 0, .cell (low Ybaf.prog) 0, .cell 1 0, .cell (low Ybaf.prog + 1) 0]) 8 (by kernel_rfl) (by kernel_rfl) (by kernel_rfl)
theorem laid_met (os : Os) (args : Array Value) : laidMetH Ybaf.prog Rows.lawS0773AParamRow.laid ((laidWorld Ybaf.prog os).forCall (fun _ _ => 0) ⟨#[], args, []⟩).memory :=
  laidMetH_of_parts (laidErrs_met os args) (by kernel_rfl)

theorem var?_below {W W' : World} {n : String} {cs : Array Value} (h : Below W.heap.size W W') (hv : W.var? Ybaf.prog n = some cs) : W'.var? Ybaf.prog n = some cs := by
  unfold World.var? at hv ⊢
  cases hg : Ybaf.prog.globalNamed n with
  | none => simp [hg] at hv
  | some g =>
    simp only [hg, Option.bind_some] at hv ⊢
    have hlt : g < W.heap.size := by
      rcases Nat.lt_or_ge g W.heap.size with h' | h'
      · exact h'
      · simp [Array.getElem?_eq_none h'] at hv
    rw [h.block g hlt]; exact hv

/-- What the walk is told of the keys. -/
def KeysAt (w : World) (a : Option Addr) (len : Nat) (ss : List ByteArray) : Prop :=
  ∀ i, i < len → ∃ x, a = some x ∧ w.cell? (x.add i) = some (.string (ss.getD i ByteArray.empty))
/-- What the walk is told of the values. -/
def ValsAt (w : World) (a : Option Addr) (len : Nat) (zs : List Int) : Prop :=
  (∀ i, i < len → ∃ x, a = some x ∧ w.cell? (x.add i) = some (.int .i64 (zs.getD i 0)))

theorem walk (F : Interp) (a0 : Option Addr) (len0 cap0 : Nat) (ss : List ByteArray) (a1 : Option Addr) (len1 cap1 : Nat) (zs : List Int) (name : ByteArray) (closed nested : Bool) (w : World) (hF : F.answers w.tape)
    (w0 : KeysAt w a0 len0 ss) (w1 : ValsAt w a1 len1 zs)
    (p0 p1 : Addr) (t0 t1 : ByteArray) (hg0 : w.cell? ⟨0, 0, none⟩ = some (.iface 133 (.pointer (some p0)))) (ha0 : w.cell? p0 = some (.string t0))
    (hg1 : w.cell? ⟨1, 0, none⟩ = some (.iface 133 (.pointer (some p1)))) (ha1 : w.cell? p1 = some (.string t1)) (hg2 : w.cell? ⟨2, 0, none⟩ = some (.iface 99 (.agg #[.pointer (some ⟨3, 62, none⟩)]))) :
    Calls Ybaf.prog 3 #[.slice a0 len0 cap0, .slice a1 len1 cap1, .string name, .bool closed, .bool nested] w fun e w' => e = .returned (.bool true) ∧ Below w.heap.size w w' := by
  by_cases hbig : 1024 < len0
  · exact law_long a0 len0 cap0 _ _ _ _ w hbig
  · exact law_any F a0 len0 cap0 (fun i => ss.getD i ByteArray.empty) a1 len1 cap1 (fun i => if i < len1 then zs.getD i 0 else 0) name closed nested w (by omega) w0
      (fun i hi => by simpa [hi] using w1 i hi) (fun i hi => if_neg (by omega)) hF p0 p1 t0 t1 hg0 ha0 hg1 ha1 hg2

set_option maxRecDepth 100000 in
theorem lifted (os : Os) (started : os.Started) (H : Type) (enc : TypeId × Value → H) :
    ReturnsInTold none {} Ybaf.checked os 3 .any Input.okWide ((OpenSpec.ofChange Rows.lawS0773AParamSpec).preRow enc Ybaf.prog Ybaf.f3 Rows.lawS0773AParamRow.domain false Rows.lawS0773AParamRow.laid)
      (fun F => ((OpenSpec.ofChange Rows.lawS0773AParamSpec).at F).post enc Ybaf.prog Ybaf.f3 false true false false) (aloneAtReturn Ybaf.prog) nothingAlways := by
  refine returnsInTold_of_row (C := Ybaf.checked) (s := OpenSpec.ofChange Rows.lawS0773AParamSpec) (by kernel_rfl) own started (by kernel_rfl) Ybaf.func3
    (OpenSpec.witness_stopped_at (enc := enc) (C := Ybaf.checked) false (laidWorld Ybaf.prog os) #[.slice none 0 0, .slice none 0 0, .string ⟨#[]⟩, .bool false, .bool false] rfl (by kernel_rfl) (by kernel_rfl) (by kernel_rfl)
      (OpenSpec.preRow_of_B rfl 8 (by kernel_rfl) (by kernel_rfl) (laid_met os _))) ?_
  intro F W base args ds gs before _ hF hval0 hW _ _ _ hL _
  have hval : ∀ (j : Nat) t v, Ybaf.f3.params[j]? = some t → args[j]? = some v → Value.okWide Ybaf.prog W .any base t v := hval0
  have hW' := hW
  obtain ⟨p, q, hA0, hV0, rfl, hfz, hnd⟩ := hW
  have hA : DataW.TrodAll enc Ybaf.prog W 0 (fun _ => true) true Ybaf.f3.params.toList args.toList ds p := hA0
  have hV : DataW.TrodVars enc Ybaf.prog W (fun _ => true) [nN, nC] gs q := hV0
  rw [Ybaf.params3] at hA hval
  obtain ⟨v0, vs0, d0, ds0, p0, q0, hargs, rfl, rfl, h0, r0⟩ := trodAll_cons hA
  obtain ⟨v1, vs1, d1, ds1, p1, q1, rfl, rfl, rfl, h1, r1⟩ := trodAll_cons r0
  obtain ⟨v2, vs2, d2, ds2, p2, q2, rfl, rfl, rfl, h2, r2⟩ := trodAll_cons r1
  obtain ⟨v3, vs3, d3, ds3, p3, q3, rfl, rfl, rfl, h3, r3⟩ := trodAll_cons r2
  obtain ⟨v4, vs4, d4, ds4, p4, q4, rfl, rfl, rfl, h4, r4⟩ := trodAll_cons r3
  obtain ⟨rfl, rfl, rfl⟩ := trodAll_nil r4
  obtain rfl : args = #[v0, v1, v2, v3, v4] := by cases args; simp_all
  obtain ⟨hE, hH⟩ := laid_split hL
  have hg2 := handle_of_laid hH
  obtain ⟨x0, t0, hv0, hc0, ht0, hz0⟩ := laid_sentinel (g := 0) hE gN gNType Ybaf.underlying62 row133 Ybaf.underlying133 Ybaf.underlying135 rfl rfl Ybaf.underlying9 cells135 cells9
  obtain ⟨x1, t1, hv1, hc1, ht1, hz1⟩ := laid_sentinel (g := 1) hE.tail gC gCType Ybaf.underlying62 row133 Ybaf.underlying133 Ybaf.underlying135 rfl rfl Ybaf.underlying9 cells135 cells9
  have vr : ∀ {X : World}, X.var? Ybaf.prog nN = some #[.iface 133 (.pointer (some x0))] → X.var? Ybaf.prog nC = some #[.iface 133 (.pointer (some x1))] → ∀ sp : Nat → Bool,
      DataW.TrodVars enc Ybaf.prog X sp [nN, nC] [tok enc (.iface 133 (.pointer (some x0))), tok enc (.iface 133 (.pointer (some x1)))] [.cell 0 0, .cell 1 0] :=
    fun y0 y1 sp => vars_read2 enc gN gNType Ybaf.underlying62 y0 trivial gC gCType Ybaf.underlying62 y1 trivial sp
  obtain ⟨rfl, rfl⟩ := hV.unique (vr hv0 hv1 _)
  have hg0 : W.cell? ⟨0, 0, none⟩ = some (.iface 133 (.pointer (some x0))) := by simpa using World.var?_cell gN hv0 0
  have hg1 : W.cell? ⟨1, 0, none⟩ = some (.iface 133 (.pointer (some x1))) := by simpa using World.var?_cell gC hv1 0
  obtain ⟨a0, len0, cap0, rfl⟩ := okWide_slice Ybaf.underlying22 (hval 0 22 v0 rfl rfl)
  have k0 := h0
  have lt0 : ∀ x ∈ p0, x.block < W.heap.size := by obtain ⟨m, hm⟩ := k0; exact DataW.trod_lt m _ _ _ hm
  obtain ⟨ss, w0⟩ : ∃ ss, KeysAt W a0 len0 ss := by
    obtain ⟨fuel, hf⟩ := h0
    rcases open_strings Ybaf.underlying22 Ybaf.underlying9 (by kernel_rfl) hf with ⟨hcs, _⟩ | ⟨x, l, c, ss, hcs, _, hl, hm, hz, _, hcell, _⟩
    · simp [Value.cells] at hcs
      obtain ⟨rfl, rfl, rfl⟩ := hcs
      exact ⟨[], fun i hi => absurd hi (by omega)⟩
    · simp [Value.cells] at hcs
      obtain ⟨rfl, rfl, rfl⟩ := hcs
      refine ⟨ss, fun i hi => ⟨_, rfl, hcell i ?_⟩⟩
      simp at hz
      omega
  obtain ⟨a1, len1, cap1, rfl⟩ := okWide_slice Ybaf.underlying23 (hval 1 23 v1 rfl rfl)
  have k1 := h1
  have lt1 : ∀ x ∈ p1, x.block < W.heap.size := by obtain ⟨m, hm⟩ := k1; exact DataW.trod_lt m _ _ _ hm
  obtain ⟨zs, w1⟩ : ∃ zs, ValsAt W a1 len1 zs := by
    obtain ⟨fuel, hf⟩ := h1
    rcases open_ints Ybaf.underlying23 Ybaf.underlying3 (by kernel_rfl) hf with ⟨hcs, _⟩ | ⟨x, l, c, zs, hcs, _, hl, hm, hz, _, hcell, hwz⟩
    · simp [Value.cells] at hcs
      obtain ⟨rfl, rfl, rfl⟩ := hcs
      exact ⟨[], fun i hi => absurd hi (by omega)⟩
    · simp [Value.cells] at hcs
      obtain ⟨rfl, rfl, rfl⟩ := hcs
      refine ⟨zs, fun i hi => ⟨_, rfl, hcell i ?_⟩⟩
      simp at hz
      omega
  obtain ⟨name, rfl, rfl, rfl, wnm⟩ := open_string Ybaf.underlying9 (hval 2 9 v2 rfl rfl) h2
  obtain ⟨closed, rfl, rfl, rfl⟩ := open_bool Ybaf.underlying4 (hval 3 4 v3 rfl rfl) h3
  obtain ⟨nested, rfl, rfl, rfl⟩ := open_bool Ybaf.underlying4 (hval 4 4 v4 rfl rfl) h4
  clear hA0 hval0 hV0
  refine (walk F.told a0 len0 cap0 ss a1 len1 cap1 zs name closed nested W hF w0 w1 x0 x1 t0 t1 hg0 hc0 hg1 hc1 hg2).mono fun e W' ⟨he, bel⟩ => ?_
  subst he
  have hargs' := trodAll_cons_mk (Below.trod laidOut (by kernel_rfl) (of_decide_eq_true (by kernel_rfl)) k0 bel lt0) (trodAll_cons_mk (Below.trod laidOut (by kernel_rfl) (of_decide_eq_true (by kernel_rfl)) k1 bel lt1)
    (trodAll_cons_mk (shut_string Ybaf.underlying9 wnm) (trodAll_cons_mk (shut_bool Ybaf.underlying4 closed) (trodAll_cons_mk (shut_bool Ybaf.underlying4 nested) trodAll_mk0))))
  exact ⟨_, rfl, _, _, _, [], _, [.cell 0 0, .cell 1 0], hW', trodAll_mk1 (shut_bool Ybaf.underlying4 _), hargs', vr (var?_below bel hv0) (var?_below bel hv1) _, bel.frame _, fun h => by cases h⟩

/-- THE STATEMENT -/
theorem proved : Rows.LawS0773AParamToldSaid :=
  Claim7.holds_of_told_tied_any_at .later 3 Ybaf.f3 _ _ [] _ _ _ _ _ (by kernel_rfl) rfl rfl rfl laidOut (by kernel_rfl) rfl ⟨rfl, rfl, rfl, rfl, rfl, rfl, rfl⟩ rfl rfl (by kernel_rfl) (by kernel_rfl) Ybaf.func3 (by kernel_rfl)
    (of_decide_eq_true (by kernel_rfl)) (of_decide_eq_true (by kernel_rfl)) stops.symm rfl stopKnobs.symm (by kernel_rfl)
    (by kernel_rfl) (by kernel_rfl) (by kernel_rfl) (by kernel_rfl) (by kernel_rfl) (by kernel_rfl) (by kernel_rfl) (by kernel_rfl) (by kernel_rfl) rfl (by kernel_rfl) rfl rfl
    rfl rfl
    rfl (by kernel_rfl) (by kernel_rfl) (by kernel_rfl) (by decide) (by kernel_rfl) lawS0773AParam_row_tie
    (OpenClaim.moreEntering_of (by kernel_rfl) (by kernel_rfl) (by kernel_rfl) (by kernel_rfl) (by kernel_rfl) (by kernel_rfl) (by kernel_rfl) (by kernel_rfl) (by kernel_rfl) (by kernel_rfl))
    ⟨_, WideRow.started_initial, quiet _⟩
    (fun os started _ H enc _ => lifted os started H enc)

end Go.Proofs.YbulkozgFmt.lawS0773AParam
