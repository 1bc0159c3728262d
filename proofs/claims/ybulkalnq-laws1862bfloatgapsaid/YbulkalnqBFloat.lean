/-
  THE WALK of LawS1862BFloatGap.
-/
import Derived.Test.YbulkalnqBWalks
namespace Go.Proofs.Ybulkalnq
open Go.RowKit
attribute [local go_sem] run_store_float
attribute [local go_sem] frombits_run

/-! ### PLAIN -/
theorem order_self (x : Nat) : FloatKind.f64.format.order x x = some .eq ∨ FloatKind.f64.format.order x x = none := by
  show Ieee.double.order x x = _ ∨ Ieee.double.order x x = _
  unfold Ieee.Format.order
  cases Ieee.double.read x with
  | number s m e => left; simp [Ieee.Datum.order]
  | infinity s => left; simp [Ieee.Datum.order]
  | nan s t => right; simp [Ieee.Datum.order]

theorem quo_some (x : Nat) (h : FloatKind.f64.format.order x x = some .eq) : ∃ r, Quo x r := by
  have h' : Ieee.double.order x x = some .eq := h
  unfold Ieee.Format.order at h'
  show ∃ r, Ieee.double.div x Fl.two = some r
  unfold Ieee.Format.div Fl.two
  rw [Fl.read_two]
  cases hx : Ieee.double.read x with
  | number s m e => exact ⟨_, by rw [Fl.quotient_num _ _ _ _ _ _ _ (by omega)]; rfl⟩
  | infinity s => exact ⟨_, rfl⟩
  | nan s t => rw [hx] at h'; simp [Ieee.Datum.order] at h'

/-- What halving gives, a NaN taken as -Inf. -/
def Half (x h : Nat) : Prop := (FloatKind.f64.format.order x x = none ∧ h = infN) ∨ (FloatKind.f64.format.order x x = some .eq ∧ Quo x h)
theorem half_some (x : Nat) : ∃ h, Half x h := by
  rcases order_self x with h | h
  · obtain ⟨r, hr⟩ := quo_some x h; exact ⟨r, .inr ⟨h, hr⟩⟩
  · exact ⟨infN, .inl ⟨h, rfl⟩⟩

/-- The NaN that the tape's answer t stands for. -/
def nanOf (t : Nat) : Nat := (t % 2) * 2 ^ 63 + 0x7ff0000000000000 + 1 + (t / 2) % (2 ^ 52 - 1)
theorem nan_read (n u : Nat) (hu : u < 4503599627370495) (h : n = 9218868437227405313 + u ∨ n = 9223372036854775808 + (9218868437227405313 + u)) : ∃ s f, Ieee.double.read n = .nan s f := by
  have hm : n % 9223372036854775808 = 9218868437227405313 + u := by rcases h with h | h <;> omega
  unfold Ieee.Format.read
  simp only [Fl.binade_eq, Fl.sw_eq, Fl.inf_eq, hm]
  rw [if_neg (by omega), if_neg (by omega), if_neg (by omega)]
  exact ⟨_, _, rfl⟩
theorem nanOf_order (t : Nat) : FloatKind.f64.format.order (nanOf t) (nanOf t) = none := by
  show Ieee.double.order _ _ = none
  unfold Ieee.Format.order
  obtain ⟨s, u, h⟩ := nan_read (nanOf t) (t / 2 % (2 ^ 52 - 1)) (Nat.mod_lt _ (by decide)) (by
    have h2 : t % 2 = 0 ∨ t % 2 = 1 := by omega
    unfold nanOf
    generalize t / 2 % (2 ^ 52 - 1) = u
    rcases h2 with h2 | h2
    · rw [h2]; left; omega
    · rw [h2]; right; omega)
  rw [h]; rfl

theorem sub_run_some {x y r : Nat} (h : Ieee.double.sub x y = some r) (t : TypeId) (w : World) : (binOp .sub t (.float .f64 x) (.float .f64 y)).run Yba.prog w = .ok (.float .f64 r) w :=
  run_float_arith (P := Yba.prog) w .sub t .f64 _ _ r h
theorem sub_run_none {x y : Nat} (h : Ieee.double.sub x y = none) (t : TypeId) (w : World) :
    (binOp .sub t (.float .f64 x) (.float .f64 y)).run Yba.prog w = .ok (.float .f64 (nanOf (w.tape w.drawn (.nanBits .f64 x y)))) w.drew := by
  have h' : FloatKind.f64.format.sub x y = none := h
  simp [binOp, Op.floatArith, h', Question.forced, Question.cut, nanOf]

/-! ### the two halvings -/
theorem half_lit (x h : Nat) (hh : Half x h) (w : World) : Calls Yba.prog 23 #[.float .f64 x] w fun e w' => e = .returned (.float .f64 h) ∧ w' = w := by
  rcases hh with ⟨hn, rfl⟩ | ⟨hn, hq0⟩
  · go_enter Yba.func23, Yba.ntmps23
    go_wp2
    go_ret
    exact ⟨rfl, rfl⟩
  · have hq := hq0.run
    clear hq0
    go_enter Yba.func23, Yba.ntmps23
    go_wp2
    go_ret
    exact ⟨rfl, rfl⟩
theorem half_law (x h : Nat) (hh : Half x h) (w : World) : Calls Yba.prog 11 #[.float .f64 x] w fun e w' => e = .returned (.float .f64 h) ∧ w' = w := by
  rcases hh with ⟨hn, rfl⟩ | ⟨hn, hq0⟩
  · go_enter Yba.func11, Yba.ntmps11
    go_wp2
    go_ret
    exact ⟨rfl, rfl⟩
  · have hq := hq0.run
    clear hq0
    go_enter Yba.func11, Yba.ntmps11
    go_wp2
    go_ret
    exact ⟨rfl, rfl⟩
theorem same_eq (x : Nat) (w : World) : Calls Yba.prog 10 #[.float .f64 x, .float .f64 x] w fun e w' => e = .returned (.bool true) ∧ w' = w := by
  rcases order_self x with h | h
  all_goals
    go_enter Yba.func10, Yba.ntmps10
    go_wp2
    go_ret
    exact ⟨rfl, rfl⟩
theorem same_nan (x y : Nat) (hx : FloatKind.f64.format.order x x = none) (hy : FloatKind.f64.format.order y y = none) (w : World) : Calls Yba.prog 10 #[.float .f64 x, .float .f64 y] w fun e w' => e = .returned (.bool true) ∧ w' = w := by
  go_enter Yba.func10, Yba.ntmps10
  go_wp2
  go_ret
  exact ⟨rfl, rfl⟩
end Go.Proofs.Ybulkalnq
