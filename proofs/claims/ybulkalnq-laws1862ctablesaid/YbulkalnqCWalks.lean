/-
  THE WALKS on the road of LawS1862CTable: zzs1862cval, zzs1862clump, (*lump).merge, zzs1862cveq and zzs1862cleq at equal operands.
-/
import Derived.Test.YbulkalnqRows
import Derived.WalkKit
import Derived.WalkSpells
import Derived.WalkLawsBesides
import Derived.Deep.QuietTactic
import Derived.BigQuiet
import Derived.Deep.RegionHeld3
import Derived.RowKit3
namespace Go.Proofs.Ybulkalnq
open Go.RowKit

theorem run_store_float (P : Program) (w : World) (a : Addr) (m : Mode) (k : FloatKind) (b : Nat) : (store a (.float k b) m).run P w = stored P w a (.float k b) m := run_store P w a _ m rfl
attribute [local go_sem] run_store_float
theorem bits_run (f : Nat) (w : World) : (callFunc 25 #[.float .f64 f]).run Yba.prog w = .ok (.value (.int .u64 f)) w := by kernel_rfl
attribute [local go_sem] bits_run

set_option maxHeartbeats 400000 in
theorem cval_any (k i : Int) (f : Nat) (s : ByteArray) (hk : 0 ≤ k) (hk' : k ≤ 255) (w : World) :
    Calls Yba.prog 19 #[.agg #[.int .u8 k, .int .i64 i, .float .f64 f, .string s]] w fun e w' =>
      e = .returned (.agg #[.int .i64 (k % 4), .int .i64 i, .float .f64 f, .string s]) ∧ ∃ c1 c2 : Array Value, w' = (w.alloc (.cells c1 37)).alloc (.cells c2 26) := by
  go_enter Yba.func19, Yba.ntmps19
  go_wp2
  simp [bodyPost, results, Yba.results19, go_sem]
  exact ⟨_, _, rfl⟩

set_option maxHeartbeats 400000 in
theorem cveq_same (k i : Int) (f : Nat) (s : ByteArray) (w : World) :
    Calls Yba.prog 20 #[.agg #[.int .i64 k, .int .i64 i, .float .f64 f, .string s], .agg #[.int .i64 k, .int .i64 i, .float .f64 f, .string s]] w fun e w' =>
      e = .returned (.bool true) ∧ ∃ n, w' = ((w.alloc (.cells #[.int .i64 k, .int .i64 i, .float .f64 f, .string s] 26)).alloc (.cells #[.int .i64 k, .int .i64 i, .float .f64 f, .string s] 26)).drewN n := by
  go_enter Yba.func20, Yba.ntmps20
  go_wp2_with fail
  go_quiet (fail)
  go_wp2
  go_ret
  exact ⟨rfl, _, rfl⟩
end Go.Proofs.Ybulkalnq
