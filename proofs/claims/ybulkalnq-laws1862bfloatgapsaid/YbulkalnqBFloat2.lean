/-
  THE WALK of LawS1862BFloatGap, second part: halfGap at two floats, offset, the law.
-/
import Derived.Test.YbulkalnqBFloat
namespace Go.Proofs.Ybulkalnq
open Go.RowKit
attribute [local go_sem] run_store_float

theorem below_dn {B n : Nat} {a w : World} (h : Below B a w) : Below B a (w.drewN n) := ⟨h.os, h.tape, h.output, h.size, h.block⟩
/-- A float value. -/
abbrev fltV (x : Nat) : Array Value := #[.int .i64 2, .int .i64 0, .float .f64 x, .string ⟨#[]⟩]

/-- What is known of halfGap at two floats: the bits that it gives meet R. -/
def GapF (x y : Nat) (R : Nat → Prop) : Prop :=
  ∀ w, Calls Yba.prog 17 #[.agg (fltV x), .agg (fltV y)] w fun e w' => ∃ r, R r ∧ e = .returned (.float .f64 r) ∧ ∃ c1 c2 : Array Value, ∃ n, w' = ((w.alloc (.cells c1 26)).alloc (.cells c2 26)).drewN n

set_option maxHeartbeats 1000000 in
theorem gapF_some (x y hx hy r : Nat) (h1 : Half x hx) (h2 : Half y hy) (hs : Ieee.double.sub hy hx = some r) : GapF x y (fun q => q = r) := by
  intro w
  have hq := sub_run_some hs
  have H1 : Hid (Half x hx) := h1
  have H2 : Hid (Half y hy) := h2
  clear hs h1 h2
  go_enter Yba.func17, Yba.ntmps17
  go_wp2_with fail
  go_region_held3 (fun w' => w'.cell? ⟨w.heap.size, 2, none⟩ = some (.float .f64 x) ∧ w'.cell? ⟨w.heap.size + 1, 2, none⟩ = some (.float .f64 y)) (simp [go_sem, World.cell?_alloc_past])
    (first
      | (go_at_call_of 23 x; refine (half_lit x hx H1.out _).mono ?_; rintro e w' ⟨rfl, rfl⟩)
      | (go_at_call_of 23 y; refine (half_lit y hy H2.out _).mono ?_; rintro e w' ⟨rfl, rfl⟩))
  go_wp2
  go_ret
  exact ⟨r, rfl, rfl, _, _, 1, rfl⟩

set_option maxHeartbeats 1000000 in
theorem gapF_none (x y hx hy : Nat) (h1 : Half x hx) (h2 : Half y hy) (hs : Ieee.double.sub hy hx = none) : GapF x y (fun q => FloatKind.f64.format.order q q = none) := by
  intro w
  have hq := sub_run_none hs
  have H1 : Hid (Half x hx) := h1
  have H2 : Hid (Half y hy) := h2
  clear hs h1 h2
  go_enter Yba.func17, Yba.ntmps17
  go_wp2_with fail
  go_region_with (first
      | (go_at_call_of 23 x; refine (half_lit x hx H1.out _).mono ?_; rintro e w' ⟨rfl, rfl⟩)
      | (go_at_call_of 23 y; refine (half_lit y hy H2.out _).mono ?_; rintro e w' ⟨rfl, rfl⟩))
  all_goals
    go_wp2
    go_ret
    exact ⟨_, nanOf_order _, rfl, _, _, 2, rfl⟩

set_option maxHeartbeats 400000 in
theorem offset_gapF (x y : Nat) (k : Int) (low : Bool) (R : Nat → Prop) (hk : (k == 0) = false) (w : World) (hg : GapF x y R) :
    Calls Yba.prog 8 #[.agg #[.int .i64 2, .int .i64 0, .float .f64 y, .string ⟨#[]⟩, .int .i64 k], .agg (fltV x), .bool low] w fun e w' => ∃ r, R r ∧ e = .returned (.float .f64 r) ∧
      ∃ c1 c2 c3 c4 : Array Value, ∃ n, w' = ((((w.alloc (.cells c1 29)).alloc (.cells c2 26)).alloc (.cells c3 26)).alloc (.cells c4 26)).drewN n := by
  have HG : Hid (GapF x y R) := hg
  clear hg
  go_enter Yba.func8, Yba.ntmps8
  go_wp2_with (go_at_call 17; refine (HG.out _).mono ?_; rintro e w' ⟨r, hr, rfl, c1, c2, n, rfl⟩)
  go_ret
  exact ⟨r, hr, rfl, _, _, _, _, _, rfl⟩

set_option maxHeartbeats 1000000 in
theorem flt_open (x bf : Nat) (k : Int) (low : Bool) (h0 : 0 ≤ k) (h255 : k ≤ 255) (hk : k % 3 = 0) (w : World) :
    Calls Yba.prog 4 #[.float .f64 x, .float .f64 bf, .int .u8 k, .bool low] w fun e w' => e = .returned (.bool true) ∧ Below w.heap.size w w' := by
  cases low
  · go_enter Yba.func4, Yba.ntmps4
    go_wp2_with (first
      | (go_at_call 8; refine (offset_high _ _ _ _ _ _ _ _ _).mono ?_; rintro e w' ⟨rfl, o1, o2, rfl⟩)
      | (go_at_call 9; refine (isInf_pos _).mono ?_; rintro e w' ⟨rfl, rfl⟩))
    go_ret
    refine ⟨rfl, ?_⟩
    repeat (first | exact Below.refl _ _ | apply below_dn | apply Below.drew | (refine Below.alloc ?_ (by first | (simp; done) | (simp; omega)) _))
  · go_enter Yba.func4, Yba.ntmps4
    go_wp2_with (first
      | (go_at_call 8; refine (offset_low _ _ _ _ _ _ _ _ _).mono ?_; rintro e w' ⟨rfl, o1, o2, rfl⟩)
      | (go_at_call 9; refine (isInf_neg _).mono ?_; rintro e w' ⟨rfl, rfl⟩))
    go_ret
    refine ⟨rfl, ?_⟩
    repeat (first | exact Below.refl _ _ | apply below_dn | apply Below.drew | (refine Below.alloc ?_ (by first | (simp; done) | (simp; omega)) _))

set_option maxHeartbeats 1000000 in
theorem flt_some (x bf hx hb r : Nat) (k : Int) (low : Bool) (h0 : 0 ≤ k) (h255 : k ≤ 255) (hk : (k % 3 == 0) = false) (h1 : Half x hx) (h2 : Half bf hb) (hs : Ieee.double.sub hb hx = some r) (w : World) :
    Calls Yba.prog 4 #[.float .f64 x, .float .f64 bf, .int .u8 k, .bool low] w fun e w' => e = .returned (.bool true) ∧ Below w.heap.size w w' := by
  have hq := sub_run_some hs
  have HG : Hid (GapF x bf (fun q => q = r)) := gapF_some x bf hx hb r h1 h2 hs
  have H1 : Hid (Half x hx) := h1
  have H2 : Hid (Half bf hb) := h2
  clear hs h1 h2
  go_enter Yba.func4, Yba.ntmps4
  go_wp2_with (first
    | (go_at_call 8; refine (offset_gapF x bf _ _ _ hk _ HG.out).mono ?_; rintro e w' ⟨q, rfl, rfl, c1, c2, c3, c4, n, rfl⟩)
    | (go_at_call_of 11 x; refine (half_law x hx H1.out _).mono ?_; rintro e w' ⟨rfl, rfl⟩)
    | (go_at_call_of 11 bf; refine (half_law bf hb H2.out _).mono ?_; rintro e w' ⟨rfl, rfl⟩)
    | (go_at_call 10; refine (same_eq _ _).mono ?_; rintro e w' ⟨rfl, rfl⟩))
  go_ret
  refine ⟨rfl, ?_⟩
  repeat (first | exact Below.refl _ _ | apply below_dn | apply Below.drew | (refine Below.alloc ?_ (by first | (simp; done) | (simp; omega)) _))

set_option maxHeartbeats 1000000 in
theorem flt_none (x bf hx hb : Nat) (k : Int) (low : Bool) (h0 : 0 ≤ k) (h255 : k ≤ 255) (hk : (k % 3 == 0) = false) (h1 : Half x hx) (h2 : Half bf hb) (hs : Ieee.double.sub hb hx = none) (w : World) :
    Calls Yba.prog 4 #[.float .f64 x, .float .f64 bf, .int .u8 k, .bool low] w fun e w' => e = .returned (.bool true) ∧ Below w.heap.size w w' := by
  have hq := sub_run_none hs
  have HG : Hid (GapF x bf (fun q => FloatKind.f64.format.order q q = none)) := gapF_none x bf hx hb h1 h2 hs
  have H1 : Hid (Half x hx) := h1
  have H2 : Hid (Half bf hb) := h2
  clear hs h1 h2
  go_enter Yba.func4, Yba.ntmps4
  go_wp2_with (first
    | (go_at_call 8; refine (offset_gapF x bf _ _ _ hk _ HG.out).mono ?_; rintro e w' ⟨q, hn, rfl, c1, c2, c3, c4, n, rfl⟩)
    | (go_at_call_of 11 x; refine (half_law x hx H1.out _).mono ?_; rintro e w' ⟨rfl, rfl⟩)
    | (go_at_call_of 11 bf; refine (half_law bf hb H2.out _).mono ?_; rintro e w' ⟨rfl, rfl⟩)
    | (go_at_call 10; refine (same_nan _ _ (by assumption) (nanOf_order _) _).mono ?_; rintro e w' ⟨rfl, rfl⟩))
  go_ret
  refine ⟨rfl, ?_⟩
  repeat (first | exact Below.refl _ _ | apply below_dn | apply Below.drew | (refine Below.alloc ?_ (by first | (simp; done) | (simp; omega)) _))

/-- LawS1862BFloatGap returns true, whatever the input. -/
theorem flt_any_law (x bf : Nat) (k : Int) (low : Bool) (h0 : 0 ≤ k) (h255 : k ≤ 255) (w : World) :
    Calls Yba.prog 4 #[.float .f64 x, .float .f64 bf, .int .u8 k, .bool low] w fun e w' => e = .returned (.bool true) ∧ Below w.heap.size w w' := by
  by_cases hk : k % 3 = 0
  · exact flt_open x bf k low h0 h255 hk w
  have hk' : (k % 3 == 0) = false := by simpa using hk
  obtain ⟨hx, h1⟩ := half_some x
  obtain ⟨hb, h2⟩ := half_some bf
  cases hs : Ieee.double.sub hb hx with
  | some r => exact flt_some x bf hx hb r k low h0 h255 hk' h1 h2 hs w
  | none => exact flt_none x bf hx hb k low h0 h255 hk' h1 h2 hs w
end Go.Proofs.Ybulkalnq
