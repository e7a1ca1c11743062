import Derived.Test.YbulkozgFmtParam
/-!
(*build).Param: its ways, at a build of depth 0 and at one of depth 1.
-/
namespace Go.Proofs.YbulkozgFmt
open Go.RowKit Go.Extern.Stop Go.Stop Go.Extern

theorem bparam_found (B C mb : Nat) (s : ByteArray) (z : Int) (w : World) (hB : w.cell? ⟨B, 0, none⟩ = some (.pointer (some ⟨C, 0, none⟩))) (hC : Cont w C 0 mb) (hm : KMap w mb s (some (.iface 3 (.int .i64 z)))) :
    Calls Ybaf.prog 5 #[.pointer (some ⟨B, 0, none⟩), .string s] w fun e w' => e = .returned (.tuple #[.iface 3 (.int .i64 z), .nilIface]) ∧ Mild C w w' := by
  go_enter Ybaf.func5, Ybaf.ntmps5
  go_wp2_with (go_at_call 10; refine (param_found C mb s z _ hC hm).mono ?_; rintro e w' ⟨rfl, hw⟩)
  go_ret2
  exact ⟨rfl, hw⟩

theorem Below.mild {w w' w'' : World} {C : Nat} (h : Mild C w w') (k : Below w'.heap.size w' w'') : Mild C w w'' :=
  ⟨k.os.trans h.os, k.tape.trans h.tape, k.output.trans h.output, Nat.le_trans h.size k.size, fun i hi hn => (k.block i (Nat.lt_of_lt_of_le hi h.size)).trans (h.block i hi hn)⟩

/-- What a failing Param of a build hands back, at depth 0. -/
def BFailed1 (C B : Nat) (a : Addr) (w : World) (e : Ending) (w' : World) : Prop :=
  ∃ N nb pb, e = .returned (.tuple #[.nilIface, .iface 69 (.pointer (some ⟨N, 0, none⟩))]) ∧ Mild C w w' ∧ Path1 w' N nb B 118 (.pointer (some ⟨pb, 0, none⟩)) ∧ w'.cell? ⟨pb, 0 + 1, none⟩ = some (.iface 133 (.pointer (some a)))
def BFailed2 (C B A : Nat) (a : Addr) (w : World) (e : Ending) (w' : World) : Prop :=
  ∃ N nb pb, e = .returned (.tuple #[.nilIface, .iface 69 (.pointer (some ⟨N, 0, none⟩))]) ∧ Mild C w w' ∧ Path2 w' N nb B A 118 (.pointer (some ⟨pb, 0, none⟩)) ∧ w'.cell? ⟨pb, 0 + 1, none⟩ = some (.iface 133 (.pointer (some a)))

theorem bparam_fail1 (B C : Nat) (s : ByteArray) (a : Addr) (w : World) (hp : Calls Ybaf.prog 10 #[.pointer (some ⟨C, 0, none⟩), .string s] w (Failed C a w)) (hC2 : 2 < C) (hBC : B ≠ C)
    (hg : w.cell? ⟨2, 0, none⟩ = some (.iface 99 (.agg #[.pointer (some ⟨3, 62, none⟩)]))) (hB : w.cell? ⟨B, 0, none⟩ = some (.pointer (some ⟨C, 0, none⟩)))
    (h3 : w.cell? ⟨B, 3, none⟩ = some (.pointer none)) (h4 : w.cell? ⟨B, 4, none⟩ = some (.int .i64 0)) :
    Calls Ybaf.prog 5 #[.pointer (some ⟨B, 0, none⟩), .string s] w (BFailed1 C B a w) := by
  go_enter Ybaf.func5, Ybaf.ntmps5
  go_wp2_with (first
    | (go_at_call 10; refine hp.mono ?_; rintro e w1 ⟨pb, rfl, hw, hx⟩)
    | (go_at_call 11; refine (withPath_one B pb a _ (hw.cell hg (Nat.ne_of_lt hC2)) hx (hw.cell h3 hBC) (hw.cell h4 hBC)).mono ?_; rintro e w2 ⟨N, nb, rfl, hb, hP⟩))
  go_ret2
  exact ⟨N, nb, pb, rfl, Below.mild hw hb, hP, (hb.cell (cellLt hx)).trans hx⟩

theorem bparam_fail2 (B A C : Nat) (s : ByteArray) (a : Addr) (w : World) (hp : Calls Ybaf.prog 10 #[.pointer (some ⟨C, 0, none⟩), .string s] w (Failed C a w)) (hC2 : 2 < C) (hBC : B ≠ C) (hAC : A ≠ C)
    (hg : w.cell? ⟨2, 0, none⟩ = some (.iface 99 (.agg #[.pointer (some ⟨3, 62, none⟩)]))) (hB : w.cell? ⟨B, 0, none⟩ = some (.pointer (some ⟨C, 0, none⟩)))
    (h3 : w.cell? ⟨B, 3, none⟩ = some (.pointer (some ⟨A, 0, none⟩))) (h4 : w.cell? ⟨B, 4, none⟩ = some (.int .i64 1)) (k3 : w.cell? ⟨A, 3, none⟩ = some (.pointer none)) (k4 : w.cell? ⟨A, 4, none⟩ = some (.int .i64 0)) :
    Calls Ybaf.prog 5 #[.pointer (some ⟨B, 0, none⟩), .string s] w (BFailed2 C B A a w) := by
  go_enter Ybaf.func5, Ybaf.ntmps5
  go_wp2_with (first
    | (go_at_call 10; refine hp.mono ?_; rintro e w1 ⟨pb, rfl, hw, hx⟩)
    | (go_at_call 11; refine (withPath_two B A pb a _ (hw.cell hg (Nat.ne_of_lt hC2)) hx (hw.cell h3 hBC) (hw.cell h4 hBC) (hw.cell k3 hAC) (hw.cell k4 hAC)).mono ?_; rintro e w2 ⟨N, nb, rfl, hb, hP⟩))
  go_ret2
  exact ⟨N, nb, pb, rfl, Below.mild hw hb, hP, (hb.cell (cellLt hx)).trans hx⟩

end Go.Proofs.YbulkozgFmt
