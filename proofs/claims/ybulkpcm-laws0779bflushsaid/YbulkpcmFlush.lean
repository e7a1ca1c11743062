/-
  LawS0779BFlush: ALL WAYS TOGETHER.
-/
import Derived.Test.YbulkpcmFlushA
import Derived.Test.YbulkpcmFlushB
import Derived.Test.YbulkpcmFlushC
import Derived.Test.YbulkpcmFlushD
namespace Go.Proofs.Ybulkpcm
open Go.RowKit

set_option maxRecDepth 100000 in
set_option maxHeartbeats 400000 in
theorem flush_long (a0 : Option Addr) (len cap : Nat) (v1 v2 v3 v4 v5 v6 : Value) (w : World) (h : 1024 < len) :
    Calls Yba.prog 4 #[.slice a0 len cap, v1, v2, v3, v4, v5, v6] w fun e w' => e = .returned (.bool true) ∧ Below w.heap.size w w' := by
  have hc0 : (1024 : Int) < (len : Int) := by omega
  go_enter Yba.func4, Yba.ntmps4
  go_wp2
  go_ret
  exact ⟨rfl, Below.refl _ _⟩

theorem flush_any (a0 : Option Addr) (len cap : Nat) (ts : List Int) (big pre fail ind emp : Bool) (d : Nat) (w : World) (hn : len ≤ 1024) (hts : ts.length = len) (hd : d ≤ 255) (hsrc : SrcB w (.slice a0 len cap) ts) :
    Calls Yba.prog 4 #[.slice a0 len cap, .bool big, .bool pre, .bool fail, .bool ind, .bool emp, .int .u8 (d : Int)] w fun e w' => e = .returned (.bool true) ∧ Below w.heap.size w w' := by
  cases big
  · cases pre
    · cases fail
      · cases emp
        · exact flush_ffff a0 len cap ts ind d w hn hts hd hsrc
        · exact flush_ffft a0 len cap ts ind d w hn hts hd hsrc
      · cases emp
        · exact flush_fftf a0 len cap ts ind d w hn hts hd hsrc
        · exact flush_fftt a0 len cap ts ind d w hn hts hd hsrc
    · cases fail
      · cases emp
        · exact flush_ftff a0 len cap ts ind d w hn hts hd hsrc
        · exact flush_ftft a0 len cap ts ind d w hn hts hd hsrc
      · cases emp
        · exact flush_fttf a0 len cap ts ind d w hn hts hd hsrc
        · exact flush_fttt a0 len cap ts ind d w hn hts hd hsrc
  · cases pre
    · cases fail
      · cases emp
        · exact flush_tfff a0 len cap ts ind d w hn hts hd hsrc
        · exact flush_tfft a0 len cap ts ind d w hn hts hd hsrc
      · cases emp
        · exact flush_tftf a0 len cap ts ind d w hn hts hd hsrc
        · exact flush_tftt a0 len cap ts ind d w hn hts hd hsrc
    · cases fail
      · cases emp
        · exact flush_ttff a0 len cap ts ind d w hn hts hd hsrc
        · exact flush_ttft a0 len cap ts ind d w hn hts hd hsrc
      · cases emp
        · exact flush_tttf a0 len cap ts ind d w hn hts hd hsrc
        · exact flush_tttt a0 len cap ts ind d w hn hts hd hsrc
end Go.Proofs.Ybulkpcm
