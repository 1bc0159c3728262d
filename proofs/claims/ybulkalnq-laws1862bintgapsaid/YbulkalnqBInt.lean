/-
  THE WALK of LawS1862BIntGap.
-/
import Derived.Test.YbulkalnqBWalks
namespace Go.Proofs.Ybulkalnq
open Go.RowKit
attribute [local go_sem] run_store_float
attribute [local go_sem] neg_run

theorem below_dn {B n : Nat} {a w : World} (h : Below B a w) : Below B a (w.drewN n) := ⟨h.os, h.tape, h.output, h.size, h.block⟩

set_option maxHeartbeats 1000000 in
theorem int_open (a bv k : Int) (low : Bool) (h0 : 0 ≤ k) (h255 : k ≤ 255) (hk : k % 3 = 0) (w : World) :
    Calls Yba.prog 3 #[.int .i64 a, .int .i64 bv, .int .u8 k, .bool low] w fun e w' => e = .returned (.bool true) ∧ Below w.heap.size w w' := by
  cases low
  · go_enter Yba.func3, Yba.ntmps3
    go_wp2_with (go_at_call_of 7 bv; refine (int_any bv _).mono ?_; rintro e w' ⟨rfl, c, rfl⟩)
    go_region_held3 (fun w' => w'.cell? ⟨w.heap.size + 1, 0, none⟩ = some (.int .i64 1) ∧ w'.cell? ⟨w.heap.size + 1, 1, none⟩ = some (.int .i64 bv) ∧ w'.cell? ⟨w.heap.size + 1, 2, none⟩ = some (.float .f64 0)
        ∧ w'.cell? ⟨w.heap.size + 1, 3, none⟩ = some (.string ⟨#[]⟩) ∧ w'.cell? ⟨w.heap.size + 1, 4, none⟩ = some (.int .i64 0)) (simp [go_sem, World.cell?_alloc_past])
      (first
        | (go_at_call 7; refine (int_any a _).mono ?_; rintro e w' ⟨rfl, o1, rfl⟩)
        | (go_at_call 8; refine (offset_high _ _ _ _ _ _ _ _ _).mono ?_; rintro e w' ⟨rfl, o1, o2, rfl⟩))
    go_wp2_with (go_at_call 9; refine (isInf_pos _).mono ?_; rintro e w' ⟨rfl, rfl⟩)
    go_ret
    refine ⟨rfl, ?_⟩
    repeat (first | exact Below.refl _ _ | apply below_dn | apply Below.drew | (refine Below.alloc ?_ (by first | (simp; done) | (simp; omega)) _))
  · go_enter Yba.func3, Yba.ntmps3
    go_wp2_with (go_at_call_of 7 bv; refine (int_any bv _).mono ?_; rintro e w' ⟨rfl, c, rfl⟩)
    go_region_held3 (fun w' => w'.cell? ⟨w.heap.size + 1, 0, none⟩ = some (.int .i64 1) ∧ w'.cell? ⟨w.heap.size + 1, 1, none⟩ = some (.int .i64 bv) ∧ w'.cell? ⟨w.heap.size + 1, 2, none⟩ = some (.float .f64 0)
        ∧ w'.cell? ⟨w.heap.size + 1, 3, none⟩ = some (.string ⟨#[]⟩) ∧ w'.cell? ⟨w.heap.size + 1, 4, none⟩ = some (.int .i64 0)) (simp [go_sem, World.cell?_alloc_past])
      (first
        | (go_at_call 7; refine (int_any a _).mono ?_; rintro e w' ⟨rfl, o1, rfl⟩)
        | (go_at_call 8; refine (offset_low _ _ _ _ _ _ _ _ _).mono ?_; rintro e w' ⟨rfl, o1, o2, rfl⟩))
    go_wp2_with (go_at_call 9; refine (isInf_neg _).mono ?_; rintro e w' ⟨rfl, rfl⟩)
    go_ret
    refine ⟨rfl, ?_⟩
    repeat (first | exact Below.refl _ _ | apply below_dn | apply Below.drew | (refine Below.alloc ?_ (by first | (simp; done) | (simp; omega)) _))

/-- What is known of halfGap at two ints: the bits that it gives. -/
def Gap (a b : Int) (r : Nat) : Prop :=
  ∀ w, Calls Yba.prog 17 #[.agg (intV a), .agg (intV b)] w fun e w' => e = .returned (.float .f64 r) ∧ ∃ c1 c2 : Array Value, ∃ n, w' = ((w.alloc (.cells c1 26)).alloc (.cells c2 26)).drewN n

theorem Gap.up {a b : Int} {r : Nat} (hr : Quo (floatOfInt .f64 (b - a)) r) (h : a ≤ b) (ha : -9223372036854775808 ≤ a) (hb : b ≤ 9223372036854775807) : Gap a b r :=
  fun w => (halfGap_up a b r hr h ha hb w).mono fun _ _ ⟨he, c1, c2, hw⟩ => ⟨he, c1, c2, 0, hw⟩
theorem Gap.down {a b : Int} {r : Nat} (hr : Quo (Op.negFloat .f64 (floatOfInt .f64 (a - b))) r) (h : b < a) (hb : -9223372036854775808 ≤ b) (ha : a ≤ 9223372036854775807) : Gap a b r :=
  fun w => (halfGap_down a b r hr h hb ha w).mono fun _ _ ⟨he, c1, c2, hw⟩ => ⟨he, c1, c2, 0, hw⟩

set_option maxHeartbeats 1000000 in
theorem int_in (a bv k : Int) (low : Bool) (r : Nat) (h0 : 0 ≤ k) (h255 : k ≤ 255) (hk : (k % 3 == 0) = false) (a1 : -1099511627776 < a) (a2 : a < 1099511627776) (b1 : -1099511627776 < bv) (b2 : bv < 1099511627776)
    (hg : Gap a bv r) (hr : Quo (floatOfInt .f64 (bv - a)) r) (ho : FloatKind.f64.format.order r r = some .eq) (w : World) :
    Calls Yba.prog 3 #[.int .i64 a, .int .i64 bv, .int .u8 k, .bool low] w fun e w' => e = .returned (.bool true) ∧ Below w.heap.size w w' := by
  have hq := hr.run
  have HG : Hid (Gap a bv r) := hg
  clear hg hr
  go_enter Yba.func3, Yba.ntmps3
  go_wp2_with (go_at_call_of 7 bv; refine (int_any bv _).mono ?_; rintro e w' ⟨rfl, c, rfl⟩)
  go_region_held3 (fun w' => w'.cell? ⟨w.heap.size + 1, 0, none⟩ = some (.int .i64 1) ∧ w'.cell? ⟨w.heap.size + 1, 1, none⟩ = some (.int .i64 bv) ∧ w'.cell? ⟨w.heap.size + 1, 2, none⟩ = some (.float .f64 0)
      ∧ w'.cell? ⟨w.heap.size + 1, 3, none⟩ = some (.string ⟨#[]⟩) ∧ w'.cell? ⟨w.heap.size + 1, 4, none⟩ = some (.int .i64 (k % 3))) (simp [go_sem, World.cell?_alloc_past])
    (first
      | (go_at_call 7; refine (int_any a _).mono ?_; rintro e w' ⟨rfl, o1, rfl⟩)
      | (go_at_call 8; refine (offset_gap _ _ _ _ _ _ _ _ _ _ r hk _ HG.out).mono ?_; rintro e w' ⟨rfl, o1, o2, o3, o4, n, rfl⟩))
  go_wp2
  go_ret
  refine ⟨rfl, ?_⟩
  repeat (first | exact Below.refl _ _ | apply below_dn | apply Below.drew | (refine Below.alloc ?_ (by first | (simp; done) | (simp; omega)) _))

/-- The four ways in which the guard 'a > -lim && a < lim && bv > -lim && bv < lim' says no. -/
def Out (a bv : Int) : Prop :=
  a ≤ -1099511627776 ∨ (-1099511627776 < a ∧ 1099511627776 ≤ a) ∨ (-1099511627776 < a ∧ a < 1099511627776 ∧ bv ≤ -1099511627776) ∨ (-1099511627776 < a ∧ a < 1099511627776 ∧ -1099511627776 < bv ∧ 1099511627776 ≤ bv)

set_option maxHeartbeats 4000000 in
theorem int_out (a bv k : Int) (low : Bool) (r r' : Nat) (h0 : 0 ≤ k) (h255 : k ≤ 255) (hk : (k % 3 == 0) = false) (out : Out a bv) (sgn : (a ≤ bv ∧ (FloatKind.f64.format.order r 0 = some .gt ∨ FloatKind.f64.format.order r 0 = some .eq)) ∨ (bv < a ∧ FloatKind.f64.format.order r 0 = some .lt))
    (hg : Gap a bv r) (hg' : Gap bv a r') (ho : FloatKind.f64.format.order r (Op.negFloat .f64 r') = some .eq) (w : World) :
    Calls Yba.prog 3 #[.int .i64 a, .int .i64 bv, .int .u8 k, .bool low] w fun e w' => e = .returned (.bool true) ∧ Below w.heap.size w w' := by
  have HG : Hid (Gap a bv r) := hg
  have HG' : Hid (Gap bv a r') := hg'
  clear hg hg'
  rcases out with x | ⟨x, x2⟩ | ⟨x, x2, x3⟩ | ⟨x, x2, x3, x4⟩ <;> rcases sgn with ⟨s, hs | hs⟩ | ⟨s, hs⟩
  all_goals try (exfalso; omega)
  all_goals
    go_enter Yba.func3, Yba.ntmps3
    go_wp2_with (go_at_call_of 7 bv; refine (int_any bv _).mono ?_; rintro e w' ⟨rfl, c, rfl⟩)
    go_region_held3 (fun w' => w'.cell? ⟨w.heap.size + 1, 0, none⟩ = some (.int .i64 1) ∧ w'.cell? ⟨w.heap.size + 1, 1, none⟩ = some (.int .i64 bv) ∧ w'.cell? ⟨w.heap.size + 1, 2, none⟩ = some (.float .f64 0)
        ∧ w'.cell? ⟨w.heap.size + 1, 3, none⟩ = some (.string ⟨#[]⟩) ∧ w'.cell? ⟨w.heap.size + 1, 4, none⟩ = some (.int .i64 (k % 3))) (simp [go_sem, World.cell?_alloc_past])
      (first
        | (go_at_call 7; refine (int_any a _).mono ?_; rintro e w' ⟨rfl, o1, rfl⟩)
        | (go_at_call 8; refine (offset_gap _ _ _ _ _ _ _ _ _ _ r hk _ HG.out).mono ?_; rintro e w' ⟨rfl, o1, o2, o3, o4, n, rfl⟩))
    go_wp2_with (first
        | (go_at_call_of 7 a; refine (int_any a _).mono ?_; rintro e w' ⟨rfl, p1, rfl⟩)
        | (go_at_call_of 7 bv; refine (int_any bv _).mono ?_; rintro e w' ⟨rfl, p2, rfl⟩)
        | (go_at_call 8; refine (offset_gap _ _ _ _ _ _ _ _ _ _ r' hk _ HG'.out).mono ?_; rintro e w' ⟨rfl, q1, q2, q3, q4, n', rfl⟩))
    go_ret
    refine ⟨by first | rfl | (simp; omega), ?_⟩
    repeat (first | exact Below.refl _ _ | apply below_dn | apply Below.drew | (refine Below.alloc ?_ (by first | (simp; done) | (simp; omega)) _))

/-- LawS1862BIntGap returns true, whatever the input. -/
theorem int_any_law (a bv k : Int) (low : Bool) (ha : -9223372036854775808 ≤ a ∧ a ≤ 9223372036854775807) (hb : -9223372036854775808 ≤ bv ∧ bv ≤ 9223372036854775807) (h0 : 0 ≤ k) (h255 : k ≤ 255) (w : World) :
    Calls Yba.prog 3 #[.int .i64 a, .int .i64 bv, .int .u8 k, .bool low] w fun e w' => e = .returned (.bool true) ∧ Below w.heap.size w w' := by
  by_cases hk : k % 3 = 0
  · exact int_open a bv k low h0 h255 hk w
  have hk' : (k % 3 == 0) = false := by simpa using hk
  by_cases hin : (-1099511627776 < a ∧ a < 1099511627776) ∧ (-1099511627776 < bv ∧ bv < 1099511627776)
  · obtain ⟨⟨a1, a2⟩, b1, b2⟩ := hin
    rcases Int.lt_trichotomy a bv with h | h | h
    · obtain ⟨r, r', q1, q2, q3, n1, n2, o1, o2, o3, o4⟩ := Fl.gap (bv - a) (by omega) (by omega)
      exact int_in a bv k low r h0 h255 hk' a1 a2 b1 b2 (Gap.up q1 (by omega) (by omega) (by omega)) q1 o1 w
    · subst h
      have e0 : a - a = 0 := by omega
      obtain ⟨q1, o1, o2⟩ := Fl.gap0
      rw [← e0] at q1
      exact int_in a a k low 0 h0 h255 hk' a1 a2 b1 b2 (Gap.up q1 (by omega) (by omega) (by omega)) q1 o1 w
    · obtain ⟨r, r', q1, q2, q3, n1, n2, o1, o2, o3, o4⟩ := Fl.gap (a - bv) (by omega) (by omega)
      rw [show -(a - bv) = bv - a by omega] at q3
      exact int_in a bv k low r' h0 h255 hk' a1 a2 b1 b2 (Gap.down q2 (by omega) (by omega) (by omega)) q3 o2 w
  · have out : Out a bv := by unfold Out; omega
    rcases Int.lt_trichotomy a bv with h | h | h
    · obtain ⟨r, r', q1, q2, q3, n1, n2, o1, o2, o3, o4⟩ := Fl.gap (bv - a) (by omega) (by omega)
      exact int_out a bv k low r r' h0 h255 hk' out (.inl ⟨by omega, .inl o3⟩) (Gap.up q1 (by omega) (by omega) (by omega)) (Gap.down q2 (by omega) (by omega) (by omega)) (by rw [n2]; exact o1) w
    · subst h
      have e0 : a - a = 0 := by omega
      obtain ⟨q1, o1, o2⟩ := Fl.gap0
      rw [← e0] at q1
      exact int_out a a k low 0 0 h0 h255 hk' out (.inl ⟨by omega, .inr o1⟩) (Gap.up q1 (by omega) (by omega) (by omega)) (Gap.up q1 (by omega) (by omega) (by omega)) o2 w
    · obtain ⟨r, r', q1, q2, q3, n1, n2, o1, o2, o3, o4⟩ := Fl.gap (a - bv) (by omega) (by omega)
      exact int_out a bv k low r' r h0 h255 hk' out (.inr ⟨h, o4⟩) (Gap.down q2 (by omega) (by omega) (by omega)) (Gap.up q1 (by omega) (by omega) (by omega)) (by rw [n1]; exact o2) w
end Go.Proofs.Ybulkalnq
