/-
  THE WALKS on the roads of LawS1862BIntGap and LawS1862BFloatGap: Int, math.Inf, math.IsInf, halfGap, offset.
-/
import Derived.Test.YbulkalnqRows
import Derived.Test.YbulkalnqFloats
import Derived.WalkKit
import Derived.WalkSpells
import Derived.WalkLawsBesides
import Derived.Deep.QuietTactic
import Derived.BigQuiet
import Derived.Deep.RegionHeld3
import Derived.RowKit3
namespace Go.Proofs.Ybulkalnq
open Go.RowKit

theorem run_store_float (P : Program) (w : World) (a : Addr) (m : Mode) (k : FloatKind) (b : Nat) : (store a (.float k b) m).run P w = stored P w a (.float k b) m := run_store P w a _ m rfl
attribute [local go_sem] run_store_float
theorem frombits_run (n : Int) (w : World) : (callFunc 22 #[.int .u64 n]).run Yba.prog w = .ok (.value (.float .f64 n.toNat)) w := by kernel_rfl
attribute [local go_sem] frombits_run
theorem neg_run (b : Nat) (w : World) : (Op.unary .neg (.float .f64 b)).run Yba.prog w = .ok (.float .f64 (Op.negFloat .f64 b)) w := rfl
attribute [local go_sem] neg_run

/-- The bits of +Inf and of -Inf. -/
abbrev infP : Nat := 9218868437227405312
abbrev infN : Nat := 18442240474082181120

/-- An int value. -/
abbrev intV (i : Int) : Array Value := #[.int .i64 1, .int .i64 i, .float .f64 0, .string ⟨#[]⟩]

theorem int_any (i : Int) (w : World) :
    Calls Yba.prog 7 #[.int .i64 i] w fun e w' => e = .returned (.agg (intV i)) ∧ ∃ c : Array Value, w' = w.alloc (.cells c 26) := by
  go_enter Yba.func7, Yba.ntmps7
  go_wp2
  simp [bodyPost, results, Yba.results7, go_sem]
  exact ⟨_, rfl⟩

theorem inf_neg (w : World) : Calls Yba.prog 16 #[.int .i64 (-1)] w fun e w' => e = .returned (.float .f64 infN) ∧ w' = w := by
  go_enter Yba.func16, Yba.ntmps16
  go_wp2
  go_ret
  exact ⟨rfl, rfl⟩
theorem inf_pos (w : World) : Calls Yba.prog 16 #[.int .i64 1] w fun e w' => e = .returned (.float .f64 infP) ∧ w' = w := by
  go_enter Yba.func16, Yba.ntmps16
  go_wp2
  go_ret
  exact ⟨rfl, rfl⟩

theorem isInf_neg (w : World) : Calls Yba.prog 9 #[.float .f64 infN, .int .i64 (-1)] w fun e w' => e = .returned (.bool true) ∧ w' = w := by
  go_enter Yba.func9, Yba.ntmps9
  go_wp2
  go_ret
  exact ⟨rfl, rfl⟩
theorem isInf_pos (w : World) : Calls Yba.prog 9 #[.float .f64 infP, .int .i64 1] w fun e w' => e = .returned (.bool true) ∧ w' = w := by
  go_enter Yba.func9, Yba.ntmps9
  go_wp2
  go_ret
  exact ⟨rfl, rfl⟩

theorem wrap_sub (a b : Int) (h : a ≤ b) (ha : -9223372036854775808 ≤ a) (hb : b ≤ 9223372036854775807) : IntKind.u64.wrap (IntKind.u64.wrap b - IntKind.u64.wrap a) = b - a := by
  simp only [IntKind.wrap_u64]
  omega

/-- What the walk is told of a division of floats: it runs to the bits that are named. -/
def Quo (x r : Nat) : Prop := floatBits .quo .f64 x Fl.two = some r
theorem Quo.run {x r : Nat} (h : Quo x r) (t : TypeId) (w : World) : (binOp .quo t (.float .f64 x) (.float .f64 4611686018427387904)).run Yba.prog w = .ok (.float .f64 r) w := run_float_arith (P := Yba.prog) w .quo t .f64 _ _ r h

set_option maxHeartbeats 400000 in
theorem halfGap_up (a b : Int) (r : Nat) (hr : Quo (floatOfInt .f64 (b - a)) r) (h : a ≤ b) (ha : -9223372036854775808 ≤ a) (hb : b ≤ 9223372036854775807) (w : World) :
    Calls Yba.prog 17 #[.agg (intV a), .agg (intV b)] w fun e w' => e = .returned (.float .f64 r) ∧ ∃ c1 c2 : Array Value, w' = (w.alloc (.cells c1 26)).alloc (.cells c2 26) := by
  rw [← wrap_sub a b h ha hb] at hr
  have hq := hr.run
  clear hr
  go_enter Yba.func17, Yba.ntmps17
  go_wp2
  go_ret
  exact ⟨rfl, _, _, rfl⟩
set_option maxHeartbeats 400000 in
theorem halfGap_down (a b : Int) (r : Nat) (hr : Quo (Op.negFloat .f64 (floatOfInt .f64 (a - b))) r) (h : b < a) (hb : -9223372036854775808 ≤ b) (ha : a ≤ 9223372036854775807) (w : World) :
    Calls Yba.prog 17 #[.agg (intV a), .agg (intV b)] w fun e w' => e = .returned (.float .f64 r) ∧ ∃ c1 c2 : Array Value, w' = (w.alloc (.cells c1 26)).alloc (.cells c2 26) := by
  rw [← wrap_sub b a (by omega) hb ha] at hr
  have hq := hr.run
  clear hr
  go_enter Yba.func17, Yba.ntmps17
  go_wp2
  go_ret
  exact ⟨rfl, _, _, rfl⟩

/-! ### offset: the three ways, halfGap by its contract -/
theorem offset_low (v0 v1 v2 v3 at0 at1 at2 at3 : Value) (w : World) :
    Calls Yba.prog 8 #[.agg #[v0, v1, v2, v3, .int .i64 0], .agg #[at0, at1, at2, at3], .bool true] w fun e w' => e = .returned (.float .f64 infN) ∧ ∃ c1 c2 : Array Value, w' = (w.alloc (.cells c1 29)).alloc (.cells c2 26) := by
  go_enter Yba.func8, Yba.ntmps8
  go_wp2_with (go_at_call 16; refine (inf_neg _).mono ?_; rintro e w' ⟨rfl, rfl⟩)
  go_ret
  exact ⟨rfl, _, _, rfl⟩
theorem offset_high (v0 v1 v2 v3 at0 at1 at2 at3 : Value) (w : World) :
    Calls Yba.prog 8 #[.agg #[v0, v1, v2, v3, .int .i64 0], .agg #[at0, at1, at2, at3], .bool false] w fun e w' => e = .returned (.float .f64 infP) ∧ ∃ c1 c2 : Array Value, w' = (w.alloc (.cells c1 29)).alloc (.cells c2 26) := by
  go_enter Yba.func8, Yba.ntmps8
  go_wp2_with (go_at_call 16; refine (inf_pos _).mono ?_; rintro e w' ⟨rfl, rfl⟩)
  go_ret
  exact ⟨rfl, _, _, rfl⟩
set_option maxHeartbeats 400000 in
theorem offset_gap (v0 v1 v2 v3 at0 at1 at2 at3 : Value) (k : Int) (low : Bool) (r : Nat) (hk : (k == 0) = false) (w : World)
    (hg : ∀ w, Calls Yba.prog 17 #[.agg #[at0, at1, at2, at3], .agg #[v0, v1, v2, v3]] w fun e w' => e = .returned (.float .f64 r) ∧ ∃ c1 c2 : Array Value, ∃ n, w' = ((w.alloc (.cells c1 26)).alloc (.cells c2 26)).drewN n) :
    Calls Yba.prog 8 #[.agg #[v0, v1, v2, v3, .int .i64 k], .agg #[at0, at1, at2, at3], .bool low] w fun e w' => e = .returned (.float .f64 r) ∧
      ∃ c1 c2 c3 c4 : Array Value, ∃ n, w' = ((((w.alloc (.cells c1 29)).alloc (.cells c2 26)).alloc (.cells c3 26)).alloc (.cells c4 26)).drewN n := by
  have HG : Hid (∀ w, Calls Yba.prog 17 #[.agg #[at0, at1, at2, at3], .agg #[v0, v1, v2, v3]] w fun e w' => e = .returned (.float .f64 r) ∧ ∃ c1 c2 : Array Value, ∃ n, w' = ((w.alloc (.cells c1 26)).alloc (.cells c2 26)).drewN n) := hg
  clear hg
  go_enter Yba.func8, Yba.ntmps8
  go_wp2_with (go_at_call 17; refine (HG.out _).mono ?_; rintro e w' ⟨rfl, c1, c2, n, rfl⟩)
  go_ret
  exact ⟨rfl, _, _, _, _, _, rfl⟩
end Go.Proofs.Ybulkalnq
