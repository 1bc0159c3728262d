/-
  THE WALKS of LawS1871BBytewise and LawS1871BIdempotent.
-/
import Derived.Test.YbulkalsmUpper
namespace Go.Proofs.Ybulkalsm
open Go.RowKit

/-! ### PLAIN -/
theorem upS_size (s : ByteArray) : (upS s).size = s.size := by
  show (List.map upU s.data.toList).toArray.size = s.data.size
  simp
theorem upS_get (s : ByteArray) (k : Nat) (h : k < s.size) (h' : k < (upS s).size) : (((upS s)[k]'h').toNat : Int) = up (s[k].toNat : Int) := by
  rw [← upU_toNat]
  have : (upS s)[k]'h' = upU s[k] := by
    show (List.map upU s.data.toList).toArray[k]'(by simpa using h) = _
    simp
    rfl
  rw [this]
theorem up_up (c : Int) : up (up c) = up c := by
  unfold up
  split
  · rw [if_neg (by omega)]
  · rfl
theorem upU_upU (c : UInt8) : upU (upU c) = upU c := by
  apply upU_eq
  rw [upU_toNat, up_up]
theorem upS_upS (s : ByteArray) : upS (upS s) = upS s := by
  unfold upS
  simp [upU_upU]

set_option maxRecDepth 100000 in
set_option maxHeartbeats 1000000 in
theorem bytewise_any (s : ByteArray) (w : World) (hs : s.size ≤ 4096) :
    Calls Yba.prog 4 #[.string s] w fun e w' => e = .returned (.bool true) ∧ Below w.heap.size w w' := by
  have g1 : ¬ (4096 : Int) < (s.size : Int) := by omega
  obtain ⟨r, hr⟩ : ∃ r, r = upS s := ⟨_, rfl⟩
  have hz : r.size = s.size := by rw [hr, upS_size]
  have HG : Hid (∀ k (h : k < s.size) (h' : k < r.size), ((r[k]'h').toNat : Int) = up (s[k].toNat : Int)) := by
    subst hr; exact upS_get s
  have HR : Hid (r = upS s) := hr
  have hne : ((r.size : Int) != (s.size : Int)) = false := by simp [hz]
  have HZ : Hid (r.size = s.size) := hz
  clear hr hz
  go_enter Yba.func4, Yba.ntmps4
  go_wp2_with fail
  refine (upper_any s w hs).mono ?_
  rintro e w1 ⟨rfl, hb⟩
  rw [← HR.out]
  have HB := hid hb
  clear hb
  go_wp2
  go_loopw [4] (fun i wr => ∃ k : Nat, k ≤ s.size ∧ i = .int .i64 k ∧ Hid (∃ n, wr = w1.drewN n)) (fun i _ => s.size - (intOf i).toNat)
  case atStart => exact ⟨0, Nat.zero_le _, rfl, ⟨0, rfl⟩⟩
  case round =>
    obtain ⟨k, hk, rfl, HW⟩ := hrel
    by_cases hlt : k < s.size
    · have hlr : k < r.size := by rw [HZ.out]; exact hlt
      have b1 : (k : Int) < (s.size : Int) := by omega
      have b2 : (k : Int) < (r.size : Int) := by omega
      have hc : s[k].toNat < 256 := s[k].toNat_lt
      have he : ((r[k].toNat : Int) != up (s[k].toNat : Int)) = false := by rw [HG.out k hlt hlr]; simp
      go_wp2_with fail
      go_quiet ((go_at_call 11; exact Calls.quiet_of_same (bup_any _ (by omega) (by omega) _)))
      go_wp2
      go_roundw
      case rel => exact ⟨k + 1, by omega, by go_num, drewN_more HW.out _⟩
      case measure => simp [intOf]; omega
    · go_wp2
      go_ret
      refine ⟨rfl, ?_⟩
      obtain ⟨n, rfl⟩ := HW.out
      exact below_dn HB.out

/-! ### Idempotent -/
/-- Is there a letter a-z among the first k bytes? -/
def lowB (s : ByteArray) (k : Nat) : Bool := (s.data.toList.take k).any fun c => decide (97 ≤ c.toNat ∧ c.toNat ≤ 122)
theorem lowB_succ (s : ByteArray) (k : Nat) (h : k < s.size) : lowB s (k + 1) = (lowB s k || decide (97 ≤ s[k].toNat ∧ s[k].toNat ≤ 122)) := by
  unfold lowB
  rw [take_snoc s k h, List.any_append]
  simp
theorem low_none (s : ByteArray) (h : lowB s s.size = false) : upS s = s := by
  refine upS_same s fun c hc => ?_
  unfold lowB at h
  rw [List.take_of_length_le (by simp), List.any_eq_false] at h
  have := h c hc
  unfold upU
  rw [if_neg (by simpa using this)]
theorem up_not_low (c : Int) : ¬ (97 ≤ up c ∧ up c ≤ 122) := by
  unfold up
  split <;> omega

theorem below_dn' {B : Nat} {a w wr : World} (h : Below B a w) (hw : ∃ n, wr = w.drewN n) : Below B a wr := by
  obtain ⟨n, rfl⟩ := hw
  exact below_dn h

set_option maxRecDepth 100000 in
set_option maxHeartbeats 2000000 in
theorem idem_any (s : ByteArray) (w : World) (hs : s.size ≤ 4096) :
    Calls Yba.prog 5 #[.string s] w fun e w' => e = .returned (.bool true) ∧ Below w.heap.size w w' := by
  have g1 : ¬ (4096 : Int) < (s.size : Int) := by omega
  obtain ⟨r, hr⟩ : ∃ r, r = upS s := ⟨_, rfl⟩
  have HZ : Hid (r.size = s.size) := by show _ = _; rw [hr, upS_size]
  have HG : Hid (∀ k (h' : k < r.size), ¬ (97 ≤ ((r[k]'h').toNat : Int) ∧ ((r[k]'h').toNat : Int) ≤ 122)) := by
    intro k h'
    have hk : k < s.size := by rw [← HZ.out]; exact h'
    subst hr
    rw [upS_get s k hk h']
    exact up_not_low _
  have hrs : r.size ≤ 4096 := by rw [HZ.out]; exact hs
  have HU : Hid (upS r = r) := by show _ = _; rw [hr, upS_upS]
  have HR : Hid (r = upS s) := hr
  clear hr
  go_enter Yba.func5, Yba.ntmps5
  go_wp2_with fail
  refine (upper_any s w hs).mono ?_
  rintro e w1 ⟨rfl, hb⟩
  rw [← HR.out]
  have HB := hid hb
  clear hb
  go_wp2_with fail
  refine (upper_any r w1 (by rw [HZ.out]; exact hs)).mono ?_
  rintro e w2 ⟨rfl, hb⟩
  rw [HU.out]
  have HB2 := hid (HB.out.trans (hb.mono (B' := w.heap.size) HB.out.size))
  clear hb HB
  go_wp2
  go_loopw [4, 5] (fun v i wr => ∃ k : Nat, k ≤ s.size ∧ i = .int .i64 k ∧ v = .bool (lowB s k) ∧ Hid (∃ n, wr = w2.drewN n)) (fun _ i _ => s.size - (intOf i).toNat)
  case atStart => exact ⟨0, Nat.zero_le _, rfl, rfl, ⟨0, rfl⟩⟩
  case round =>
    obtain ⟨k, hk, rfl, rfl, HW⟩ := hrel
    by_cases hlt : k < s.size
    · have b1 : (k : Int) < (s.size : Int) := by omega
      have hc : s[k].toNat < 256 := s[k].toNat_lt
      have HL := hid (lowB_succ s k hlt)
      rcases (show (s[k].toNat : Int) < 97 ∨ (97 ≤ (s[k].toNat : Int) ∧ (s[k].toNat : Int) ≤ 122) ∨ (97 ≤ (s[k].toNat : Int) ∧ 122 < (s[k].toNat : Int)) by omega) with h | ⟨h, h'⟩ | ⟨h, h'⟩
      · have HL' : Hid (lowB s (k + 1) = lowB s k) := by show _ = _; rw [HL.out, decide_eq_false (by omega), Bool.or_false]
        clear HL
        go_wp2
        go_roundw
        case rel => exact ⟨k + 1, by omega, by go_num, by rw [HL'.out], HW⟩
        case measure => simp [intOf]; omega
      · have HL' : Hid (lowB s (k + 1) = true) := by show _ = _; rw [HL.out, decide_eq_true (by omega), Bool.or_true]
        clear HL
        go_wp2
        go_roundw
        case rel => exact ⟨k + 1, by omega, by go_num, by rw [HL'.out], HW⟩
        case measure => simp [intOf]; omega
      · have HL' : Hid (lowB s (k + 1) = lowB s k) := by show _ = _; rw [HL.out, decide_eq_false (by omega), Bool.or_false]
        clear HL
        go_wp2
        go_roundw
        case rel => exact ⟨k + 1, by omega, by go_num, by rw [HL'.out], HW⟩
        case measure => simp [intOf]; omega
    · obtain rfl : k = s.size := by omega
      obtain ⟨wo, rfl⟩ : ∃ wo : World, wo = wr := ⟨_, rfl⟩
      have HB3 := hid (below_dn' HB2.out HW.out)
      clear HB2 HW
      go_wp2
      go_loopw [6] (fun i wr => ∃ m : Nat, m ≤ r.size ∧ i = .int .i64 m ∧ Hid (∃ n, wr = wo.drewN n)) (fun i _ => r.size - (intOf i).toNat)
      case atStart => exact ⟨0, Nat.zero_le _, rfl, ⟨0, rfl⟩⟩
      case round =>
        obtain ⟨m, hm, rfl, HW⟩ := hrel
        by_cases hml : m < r.size
        · have b1 : (m : Int) < (r.size : Int) := by omega
          have hc : r[m].toNat < 256 := r[m].toNat_lt
          have hno := HG.out m hml
          rcases (show (r[m].toNat : Int) < 97 ∨ (97 ≤ (r[m].toNat : Int) ∧ 122 < (r[m].toNat : Int)) by omega) with h | ⟨h, h'⟩
          · clear hno
            go_wp2
            go_roundw
            case rel => exact ⟨m + 1, by omega, by go_num, HW⟩
            case measure => simp [intOf]; omega
          · clear hno
            go_wp2
            go_roundw
            case rel => exact ⟨m + 1, by omega, by go_num, HW⟩
            case measure => simp [intOf]; omega
        · have HB4 := hid (below_dn' HB3.out HW.out)
          clear HB3 HW
          cases hl : lowB s s.size with
          | true =>
            go_wp2
            go_ret
            exact ⟨rfl, HB4.out⟩
          | false =>
            have e : r = s := by rw [HR.out]; exact low_none s hl
            subst e
            go_wp2
            go_ret
            exact ⟨rfl, HB4.out⟩
end Go.Proofs.Ybulkalsm
