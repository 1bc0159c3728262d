/-
  PLAIN: floats of integers from 1 to 2^64 - 1, halved. No Go program in sight.
-/
import Derived.Laws.FloatArith
import Derived.KernelRfl
namespace Go.Proofs.Ybulkalnq.Fl
open Ieee

theorem binade_eq : double.binade = 4503599627370496 := by decide
theorem sw_eq : double.signWeight = 9223372036854775808 := by decide
theorem inf_eq : double.infRung = 9218868437227405312 := by decide
theorem least_eq : double.leastPlace = -1074 := by decide
theorem frac_eq : double.fractionBits = 52 := rfl

/-- Reading a rung under a sign: what stands in the normal range. -/
theorem read_pos (e t : Nat) (h1 : 1 ≤ e) (h2 : e ≤ 2046) (ht : t < 4503599627370496) : double.read (e * 4503599627370496 + t) = .number false (4503599627370496 + t) (-1074 + ((e : Int) - 1)) := by
  unfold Format.read
  simp only [binade_eq, sw_eq, inf_eq, least_eq]
  have a1 : (e * 4503599627370496 + t) / 9223372036854775808 % 2 = 0 := by omega
  have a2 : (e * 4503599627370496 + t) % 9223372036854775808 = e * 4503599627370496 + t := by omega
  have a3 : (e * 4503599627370496 + t) % 4503599627370496 = t := by omega
  have a4 : (e * 4503599627370496 + t) / 4503599627370496 = e := by omega
  rw [a1, a2, if_neg (by omega), if_pos (by omega), a3, a4]
  congr 1
  omega
theorem read_neg (e t : Nat) (h1 : 1 ≤ e) (h2 : e ≤ 2046) (ht : t < 4503599627370496) : double.read (9223372036854775808 + (e * 4503599627370496 + t)) = .number true (4503599627370496 + t) (-1074 + ((e : Int) - 1)) := by
  unfold Format.read
  simp only [binade_eq, sw_eq, inf_eq, least_eq]
  have a1 : (9223372036854775808 + (e * 4503599627370496 + t)) / 9223372036854775808 % 2 = 1 := by omega
  have a2 : (9223372036854775808 + (e * 4503599627370496 + t)) % 9223372036854775808 = e * 4503599627370496 + t := by omega
  have a3 : (e * 4503599627370496 + t) % 4503599627370496 = t := by omega
  have a4 : (e * 4503599627370496 + t) / 4503599627370496 = e := by omega
  rw [a1, a2, if_neg (by omega), if_pos (by omega), a3, a4]
  congr 1
  omega

theorem cut_bounds (neg : Bool) (n d : Nat) (hd : d ≤ n.log2 + 2) : n / 2 ^ d ≤ Toward.even.cut neg n d ∧ Toward.even.cut neg n d ≤ n / 2 ^ d + 1 := by
  unfold Toward.cut
  rw [Nat.min_eq_left hd, Nat.shiftLeft_eq, Nat.one_mul]
  dsimp only
  generalize (decide (2 ^ d < 2 * (n % 2 ^ d)) || (2 ^ d == 2 * (n % 2 ^ d) && n / 2 ^ d % 2 == 1)) = bb
  cases bb <;> simp
theorem cut_exact (neg : Bool) (n d : Nat) (hd : d ≤ n.log2 + 2) (hr : n % 2 ^ d = 0) : Toward.even.cut neg n d = n / 2 ^ d := by
  unfold Toward.cut
  rw [Nat.min_eq_left hd, Nat.shiftLeft_eq, Nat.one_mul]
  dsimp only
  have hp : 0 < 2 ^ d := Nat.two_pow_pos _
  have e1 : (2 ^ d == 2 * 0) = false := by simp
  rw [hr, e1]
  simp
theorem cut_even (neg : Bool) (n d : Nat) : Toward.even.cut neg n d = Toward.even.cut false n d := rfl

/-- What the rounding keeps of a number from 1 to 2^64 - 1: 53 digits (or a carry). -/
theorem kept_bounds (neg : Bool) (m : Nat) (h1 : 1 ≤ m) (h2 : m < 18446744073709551616) :
    4503599627370496 ≤ Toward.even.cut neg (m <<< (52 - m.log2)) (m.log2 - 52) ∧ Toward.even.cut neg (m <<< (52 - m.log2)) (m.log2 - 52) ≤ 9007199254740992 := by
  have hm : m ≠ 0 := by omega
  have lo : 2 ^ m.log2 ≤ m := Nat.log2_self_le hm
  have hi : m < 2 ^ (m.log2 + 1) := Nat.lt_log2_self
  rw [Nat.pow_succ] at hi
  by_cases hL : m.log2 ≤ 52
  · have e1 : m.log2 - 52 = 0 := by omega
    have e2 : 2 ^ m.log2 * 2 ^ (52 - m.log2) = 4503599627370496 := by rw [← Nat.pow_add, show m.log2 + (52 - m.log2) = 52 by omega]
    have hp : 0 < 2 ^ (52 - m.log2) := Nat.two_pow_pos _
    rw [e1, Nat.shiftLeft_eq, cut_exact _ _ _ (by omega) (by simp [Nat.mod_one])]
    have b1 : 2 ^ m.log2 * 2 ^ (52 - m.log2) ≤ m * 2 ^ (52 - m.log2) := Nat.mul_le_mul_right _ lo
    have b2 : m * 2 ^ (52 - m.log2) < 2 ^ m.log2 * 2 * 2 ^ (52 - m.log2) := Nat.mul_lt_mul_of_pos_right hi hp
    have b3 : 2 ^ m.log2 * 2 * 2 ^ (52 - m.log2) = 9007199254740992 := by rw [Nat.mul_right_comm, e2]
    rw [Nat.pow_zero, Nat.div_one]
    omega
  · have e0 : 52 - m.log2 = 0 := by omega
    have hlt : m.log2 < 64 := (Nat.log2_lt hm).2 h2
    have cb := cut_bounds neg m (m.log2 - 52) (by omega)
    rw [e0, Nat.shiftLeft_zero]
    have hp : 0 < 2 ^ (m.log2 - 52) := Nat.two_pow_pos _
    have e2 : 2 ^ m.log2 = 4503599627370496 * 2 ^ (m.log2 - 52) := by
      rw [show (4503599627370496 : Nat) = 2 ^ 52 by rfl, ← Nat.pow_add, show 52 + (m.log2 - 52) = m.log2 by omega]
    have q1 : 4503599627370496 ≤ m / 2 ^ (m.log2 - 52) := (Nat.le_div_iff_mul_le hp).2 (by omega)
    have q2 : m / 2 ^ (m.log2 - 52) < 9007199254740992 := (Nat.div_lt_iff_lt_mul hp).2 (by omega)
    omega

theorem split_rung (L K A B : Nat) (hL : L < 64) (k1 : 4503599627370496 ≤ K) (k2 : K ≤ 9007199254740992) (hA : A = (L + 1022) * 4503599627370496 + K) (hB : B = 9223372036854775808 + ((L + 1022) * 4503599627370496 + K)) :
    ∃ e t, 1023 ≤ e ∧ e ≤ 1087 ∧ t < 4503599627370496 ∧ A = e * 4503599627370496 + t ∧ B = 9223372036854775808 + (e * 4503599627370496 + t) := by
  obtain ⟨f, hf⟩ : ∃ f, f = L + 1022 := ⟨_, rfl⟩
  rw [← hf] at hA hB
  by_cases hK : K = 9007199254740992
  · exact ⟨f + 2, 0, by omega, by omega, by omega, by rw [hA, hK, Nat.add_mul], by rw [hB, hK, Nat.add_mul]⟩
  · have e1 : (f + 1) * 4503599627370496 + (K - 4503599627370496) = f * 4503599627370496 + K := by rw [Nat.add_mul]; omega
    exact ⟨f + 1, K - 4503599627370496, by omega, by omega, by omega, by rw [hA, e1], by rw [hB, e1]⟩

theorem nearest_int (m : Nat) (h1 : 1 ≤ m) (h2 : m < 18446744073709551616) :
    ∃ e t, 1023 ≤ e ∧ e ≤ 1087 ∧ t < 4503599627370496 ∧ double.nearest false m 0 = e * 4503599627370496 + t ∧ double.nearest true m 0 = 9223372036854775808 + (e * 4503599627370496 + t) := by
  have hm : m ≠ 0 := by omega
  have hlt : m.log2 < 64 := (Nat.log2_lt hm).2 h2
  have kb := kept_bounds false m h1 h2
  have hlast : max ((0 : Int) + m.log2 - (52 : Nat)) (-1074) = (m.log2 : Int) - 52 := by omega
  have key : ∀ neg, double.nearest neg m 0 = double.word neg ((m.log2 + 1022) * 4503599627370496 + Toward.even.cut false (m <<< (52 - m.log2)) (m.log2 - 52)) := by
    intro neg
    unfold Format.nearest
    rw [if_neg hm]
    simp only [frac_eq, least_eq, binade_eq, inf_eq, hlast]
    rw [cut_even neg, show ((0 : Int) - ((m.log2 : Int) - 52)).toNat = 52 - m.log2 by omega, show ((m.log2 : Int) - 52 - 0).toNat = m.log2 - 52 by omega,
      show ((m.log2 : Int) - 52 - -1074).toNat = m.log2 + 1022 by omega, Nat.min_eq_left (by omega)]
  generalize Toward.even.cut false (m <<< (52 - m.log2)) (m.log2 - 52) = K at kb key
  obtain ⟨k1, k2⟩ := kb
  have kf := key false
  have kt := key true
  simp only [Format.word, sw_eq, if_true, if_false, Bool.false_eq_true] at kf kt
  exact split_rung m.log2 K _ _ hlt k1 k2 kf kt

theorem read_two : double.read 4611686018427387904 = .number false 4503599627370496 (-51) := by decide

theorem log2_53 (M : Nat) (h1 : 4503599627370496 ≤ M) (h2 : M < 9007199254740992) : M.log2 = 52 := by
  have a : 52 ≤ M.log2 := (Nat.le_log2 (by omega)).2 h1
  have b : M.log2 < 53 := (Nat.log2_lt (by omega)).2 h2
  omega

theorem quotient_num (g : Nat) (s t : Bool) (m n : Nat) (i j : Int) (hn : n ≠ 0) :
    (Datum.number s m i).quotient g (.number t n j) = some (.number (s ^^ t) (2 * (m <<< (g + n.log2 - m.log2) / n) + (m <<< (g + n.log2 - m.log2) % n != 0).toNat) (i - j - (g + n.log2 - m.log2 : Nat) - 1)) := by
  have e : (Datum.number s m i).quotient g (.number t n j) = if n = 0 then if m = 0 then none else some (.infinity (s ^^ t)) else some (.number (s ^^ t) (2 * (m <<< (g + n.log2 - m.log2) / n) + (m <<< (g + n.log2 - m.log2) % n != 0).toNat) (i - j - (g + n.log2 - m.log2 : Nat) - 1)) := rfl
  rw [e, if_neg hn]

/-- A normal number, halved: the exponent goes down by one. -/
theorem halve (neg : Bool) (M : Nat) (I : Int) (h1 : 4503599627370496 ≤ M) (h2 : M < 9007199254740992) (hI : -1073 ≤ I) (hI' : I ≤ 900) :
    ((Datum.number neg M I).quotient 54 (.number false 4503599627370496 (-51))).map double.write = some (double.word neg ((I + 1073).toNat * 4503599627370496 + M)) := by
  have hl := log2_53 M h1 h2
  have hl2 : (4503599627370496 : Nat).log2 = 52 := log2_53 _ (by omega) (by omega)
  have hl3 : (8 * M).log2 = 55 := by
    have a : 55 ≤ (8 * M).log2 := (Nat.le_log2 (by omega)).2 (by omega)
    have b : (8 * M).log2 < 56 := (Nat.log2_lt (by omega)).2 (by omega)
    omega
  rw [quotient_num _ _ _ _ _ _ _ (by omega), hl, hl2]
  simp only [Option.map_some, Bool.xor_false, Nat.shiftLeft_eq]
  have d1 : M * 2 ^ (54 + 52 - 52) / 4503599627370496 = 4 * M := by omega
  have d2 : M * 2 ^ (54 + 52 - 52) % 4503599627370496 = 0 := by omega
  rw [d1, d2]
  congr 1
  show double.nearest neg (2 * (4 * M) + 0) _ = _
  rw [show 2 * (4 * M) + 0 = 8 * M by omega]
  unfold Format.nearest
  rw [if_neg (by omega), hl3]
  simp only [frac_eq, least_eq, binade_eq, inf_eq]
  have hlast : max (I - -51 - ((54 + 52 - 52 : Nat) : Int) - 1 + ((55 : Nat) : Int) - ((52 : Nat) : Int)) (-1074) = I - 1 := by omega
  rw [hlast, cut_even neg, show (I - -51 - ((54 + 52 - 52 : Nat) : Int) - 1 - (I - 1)).toNat = 0 by omega, show (I - 1 - (I - -51 - ((54 + 52 - 52 : Nat) : Int) - 1)).toNat = 3 by omega,
    Nat.shiftLeft_zero, cut_exact _ _ _ (by omega) (by omega), show 8 * M / 2 ^ 3 = M by omega, show (I - 1 - -1074).toNat = (I + 1073).toNat by omega, Nat.min_eq_left (by omega)]

theorem down_one (e t : Nat) (h : 1 ≤ e) : (-1074 + (((e + 1 : Nat) : Int) - 1) + 1073).toNat * 4503599627370496 + (4503599627370496 + t) = e * 4503599627370496 + t := by
  obtain ⟨f, rfl⟩ : ∃ f, e = f + 1 := ⟨e - 1, by omega⟩
  rw [show (-1074 + (((f + 1 + 1 : Nat) : Int) - 1) + 1073).toNat = f by omega, Nat.add_mul]
  omega

/-- The bits of a number from 1 to 2^64 - 1 and of its opposite, halved: the same rung r under the two signs, above nought and below infinity. -/
theorem half_int (m : Nat) (h1 : 1 ≤ m) (h2 : m < 18446744073709551616) :
    ∃ e t, 1022 ≤ e ∧ e ≤ 1086 ∧ t < 4503599627370496 ∧ double.div (double.nearest false m 0) 4611686018427387904 = some (e * 4503599627370496 + t)
      ∧ double.div (double.nearest true m 0) 4611686018427387904 = some (9223372036854775808 + (e * 4503599627370496 + t)) := by
  obtain ⟨e, t, e1, e2, ht, ha, hb⟩ := nearest_int m h1 h2
  obtain ⟨e', he⟩ : ∃ e', e = e' + 1 := ⟨e - 1, by omega⟩
  subst he
  refine ⟨e', t, by omega, by omega, ht, ?_, ?_⟩
  · unfold Format.div
    rw [ha, read_two, read_pos _ t (by omega) (by omega) ht]
    refine (halve false _ _ (by omega) (by omega) (by omega) (by omega)).trans ?_
    simp only [Format.word, if_false, Bool.false_eq_true]
    rw [down_one e' t (by omega)]
  · unfold Format.div
    rw [hb, read_two, read_neg _ t (by omega) (by omega) ht]
    refine (halve true _ _ (by omega) (by omega) (by omega) (by omega)).trans ?_
    simp only [Format.word, if_true, sw_eq]
    rw [down_one e' t (by omega)]

theorem order_pos (e t : Nat) (h1 : 1 ≤ e) (h2 : e ≤ 2046) (ht : t < 4503599627370496) : double.order (e * 4503599627370496 + t) (e * 4503599627370496 + t) = some .eq := by
  unfold Format.order
  rw [read_pos e t h1 h2 ht]
  simp [Datum.order]
theorem order_neg (e t : Nat) (h1 : 1 ≤ e) (h2 : e ≤ 2046) (ht : t < 4503599627370496) : double.order (9223372036854775808 + (e * 4503599627370496 + t)) (9223372036854775808 + (e * 4503599627370496 + t)) = some .eq := by
  unfold Format.order
  rw [read_neg e t h1 h2 ht]
  simp [Datum.order]
theorem shl_pos (n k : Nat) (h : 0 < n) : 0 < n <<< k := by rw [Nat.shiftLeft_eq]; exact Nat.mul_pos h (Nat.two_pow_pos _)
theorem cmp_gt {n : Nat} (h : 0 < n) : compare (n : Int) ((0 : Nat) : Int) = .gt := by
  show compareOfLessAndEq (n : Int) ((0 : Nat) : Int) = .gt
  unfold compareOfLessAndEq
  rw [if_neg (by omega), if_neg (by omega)]
theorem cmp_lt {n : Nat} (h : 0 < n) : compare (-(n : Int)) ((0 : Nat) : Int) = .lt := by
  show compareOfLessAndEq (-(n : Int)) ((0 : Nat) : Int) = .lt
  unfold compareOfLessAndEq
  rw [if_pos (by omega)]
theorem read_zero : double.read 0 = .number false 0 (-1074) := by decide
theorem order_pos0 (e t : Nat) (h1 : 1 ≤ e) (h2 : e ≤ 2046) (ht : t < 4503599627370496) : double.order (e * 4503599627370496 + t) 0 = some .gt := by
  unfold Format.order
  rw [read_pos e t h1 h2 ht, read_zero]
  simp only [Datum.order, signed, if_false, Bool.false_eq_true, Nat.zero_shiftLeft]
  exact congrArg some (cmp_gt (shl_pos _ _ (by omega)))
theorem order_neg0 (e t : Nat) (h1 : 1 ≤ e) (h2 : e ≤ 2046) (ht : t < 4503599627370496) : double.order (9223372036854775808 + (e * 4503599627370496 + t)) 0 = some .lt := by
  unfold Format.order
  rw [read_neg e t h1 h2 ht, read_zero]
  simp only [Datum.order, signed, if_true, if_false, Bool.false_eq_true, Nat.zero_shiftLeft]
  exact congrArg some (cmp_lt (shl_pos _ _ (by omega)))

theorem neg_pos (g : Nat) (h : g < 9223372036854775808) : Op.negFloat .f64 g = 9223372036854775808 + g := by
  show g ^^^ 2 ^ 63 = _
  have a : (g ^^^ 2 ^ 63) % 2 ^ 63 = g := by
    rw [Nat.xor_mod_two_pow, Nat.mod_self, Nat.xor_zero, Nat.mod_eq_of_lt h]
  have b : (g ^^^ 2 ^ 63) / 2 ^ 63 = 1 := by
    rw [Nat.xor_div_two_pow, Nat.div_self (Nat.two_pow_pos _), Nat.div_eq_of_lt h, Nat.zero_xor]
  have c := Nat.div_add_mod (g ^^^ 2 ^ 63) (2 ^ 63)
  rw [a, b] at c
  exact c.symm
theorem neg_neg (g : Nat) (h : g < 9223372036854775808) : Op.negFloat .f64 (9223372036854775808 + g) = g := by
  rw [← neg_pos g h]
  show (g ^^^ 2 ^ 63) ^^^ 2 ^ 63 = _
  rw [Nat.xor_assoc, Nat.xor_self, Nat.xor_zero]

/-- 2.0 -/
def two : Nat := 4611686018427387904

/-- ALL THAT THE LAW ASKS: of n from 1 to 2^64 - 1 the float, and that float's opposite, can be halved; the halves are opposites; each equals itself; the one is above 0, the other below. -/
theorem gap (n : Int) (h1 : 1 ≤ n) (h2 : n < 18446744073709551616) :
    ∃ r r' : Nat, floatBits .quo .f64 (floatOfInt .f64 n) two = some r ∧ floatBits .quo .f64 (Op.negFloat .f64 (floatOfInt .f64 n)) two = some r' ∧ floatBits .quo .f64 (floatOfInt .f64 (-n)) two = some r'
      ∧ Op.negFloat .f64 r = r' ∧ Op.negFloat .f64 r' = r ∧ FloatKind.f64.format.order r r = some .eq ∧ FloatKind.f64.format.order r' r' = some .eq ∧ FloatKind.f64.format.order r 0 = some .gt ∧ FloatKind.f64.format.order r' 0 = some .lt := by
  obtain ⟨m, rfl⟩ := Int.eq_ofNat_of_zero_le (show 0 ≤ n by omega)
  obtain ⟨e, t, e1, e2, ht, ha, hb⟩ := half_int m (by omega) (by omega)
  obtain ⟨e', t', e1', e2', ht', ha', hb'⟩ := nearest_int m (by omega) (by omega)
  have f1 : floatOfInt .f64 (m : Int) = double.nearest false m 0 := by
    show double.nearest (decide ((m : Int) < 0)) (Int.natAbs m) 0 = _
    rw [decide_eq_false (by omega), Int.natAbs_natCast]
  have f2 : floatOfInt .f64 (-(m : Int)) = double.nearest true m 0 := by
    show double.nearest (decide (-(m : Int) < 0)) (Int.natAbs (-(m : Int))) 0 = _
    rw [decide_eq_true (by omega), Int.natAbs_neg, Int.natAbs_natCast]
  have f3 : Op.negFloat .f64 (floatOfInt .f64 (m : Int)) = double.nearest true m 0 := by
    rw [f1, ha', hb', neg_pos _ (by omega)]
  refine ⟨e * 4503599627370496 + t, 9223372036854775808 + (e * 4503599627370496 + t), ?_, ?_, ?_, neg_pos _ (by omega), neg_neg _ (by omega), order_pos e t (by omega) (by omega) ht, order_neg e t (by omega) (by omega) ht, order_pos0 e t (by omega) (by omega) ht, order_neg0 e t (by omega) (by omega) ht⟩
  · rw [f1]; exact ha
  · rw [f3]; exact hb
  · rw [f2]; exact hb

theorem gap0 : floatBits .quo .f64 (floatOfInt .f64 0) two = some 0 ∧ FloatKind.f64.format.order 0 0 = some .eq ∧ FloatKind.f64.format.order 0 (Op.negFloat .f64 0) = some .eq := by decide
#print axioms gap
end Go.Proofs.Ybulkalnq.Fl
