/-
  THE WALK of LawS1865BMatchesModel.
-/
import Derived.Test.YbulkalpgBWalks
namespace Go.Proofs.Ybulkalpg
open Go.RowKit

set_option maxRecDepth 100000 in
set_option maxHeartbeats 1000000 in
theorem match_core (ao : Option Addr) (len cap : Nat) (s : Nat → ByteArray) (w : World) (h1 : len ≤ 1024) (hcells : ∀ j, j < len → ∃ b off, ao = some ⟨b, off, none⟩ ∧ w.cell? ⟨b, off + j, none⟩ = some (.string (s j))) :
    Calls Yba.prog 4 #[.slice ao len cap] w fun e w' => e = .returned (.bool true) ∧ Below w.heap.size w w' := by
  have HC : Hid (∀ j, j < len → ∃ b off, ao = some ⟨b, off, none⟩ ∧ w.cell? ⟨b, off + j, none⟩ = some (.string (s j))) := hcells
  clear hcells
  have g1 : ¬ (1024 : Int) < (len : Int) := by omega
  go_enter Yba.func4, Yba.ntmps4
  go_wp2_with fail
  refine (agents_any ao len cap s w h1 HC.out).mono ?_
  rintro e w1 ⟨rfl, hA, hB⟩
  have HA : Hid (Agents w1 w.heap.size len len s) := hA
  have HB : Hid (Below w.heap.size w w1) := hB
  clear hA hB
  go_wp2_with fail
  go_loopw [4, 5] (fun v i wr => ∃ j : Nat, (j + 1 ≤ len ∨ j = 0) ∧ i = .int .i64 ((j : Int) + 1) ∧ v = .bool (ordB s (j + 1)) ∧ Hid (∃ n, wr = w1.drewN n)) (fun _ i _ => len - (intOf i).toNat)
  case atStart => exact ⟨0, .inr rfl, rfl, rfl, ⟨0, rfl⟩⟩
  case round =>
    obtain ⟨j, hj, rfl, rfl, HW⟩ := hrel
    have HB2 : Hid (Below w.heap.size w wr) := by obtain ⟨n, rfl⟩ := HW.out; exact ⟨HB.out.os, HB.out.tape, HB.out.output, HB.out.size, HB.out.block⟩
    by_cases hlt : j + 1 < len
    · obtain ⟨b, off, rfl, k1⟩ := HC.out j (by omega)
      obtain ⟨b', off', hbo, k2⟩ := HC.out (j + 1) hlt
      simp only [Option.some.injEq, Addr.mk.injEq] at hbo
      obtain ⟨rfl, rfl, _⟩ := hbo
      have c1 : wr.cell? ⟨b, off + j, none⟩ = some (.string (s j)) := (HB2.out.cell (p := ⟨b, off + j, none⟩) (World.block_lt_of_cell? w _ k1)).trans k1
      have c2 : wr.cell? ⟨b, off + (j + 1), none⟩ = some (.string (s (j + 1))) := (HB2.out.cell (p := ⟨b, off + (j + 1), none⟩) (World.block_lt_of_cell? w _ k2)).trans k2
      have b1 : (j : Int) + 1 < (len : Int) := by omega
      have b2 : (j : Int) < (len : Int) := by omega
      have b0 : (0 : Int) ≤ (j : Int) + 1 := by omega
      have t1 : ((j : Int) + 1).toNat = j + 1 := by omega
      have w1' : IntKind.i64.wrap (j : Int) = (j : Int) := by rw [IntKind.wrap_i64]; omega
      clear k1 k2 HB2
      cases hc : lessB (s j) (s (j + 1)) with
      | true =>
        have HO : Hid (ordB s (j + 1 + 1) = ordB s (j + 1)) := by
          show _ = _
          rw [ordB_succ s (j + 1) (by omega), Nat.add_sub_cancel, hc, Bool.and_true]
        clear hj
        go_wp2_with fail
        go_quiet ((go_at_call 9; exact Calls.quiet_of_same (less_any _ _ _)))
        go_wp2
        go_roundw
        case rel => exact ⟨j + 1, .inl (by omega), by go_num, by rw [HO.out], drewN_more HW.out _⟩
        case measure => simp [intOf]; omega
      | false =>
        have HO : Hid (ordB s (j + 1 + 1) = false) := by
          show _ = _
          rw [ordB_succ s (j + 1) (by omega), Nat.add_sub_cancel, hc, Bool.and_false]
        clear hj
        go_wp2_with fail
        go_quiet ((go_at_call 9; exact Calls.quiet_of_same (less_any _ _ _)))
        go_wp2
        go_roundw
        case rel => exact ⟨j + 1, .inl (by omega), by go_num, by rw [HO.out], drewN_more HW.out _⟩
        case measure => simp [intOf]; omega
    · have HT : Hid (ordB s (j + 1) = ordB s len) := by
        show _ = _
        rcases hj with h | h
        · have : j + 1 = len := by omega
          rw [this]
        · have : len = 0 ∨ len = 1 := by omega
          subst h
          rcases this with e | e <;> rw [e] <;> rfl
      have HA2 : Hid (Agents wr w.heap.size len len s) := by obtain ⟨n, rfl⟩ := HW.out; exact HA.out
      clear hj
      go_wp2_with (go_at_call 10; refine (ordered_any w.heap.size len s _ h1 HA2.out).mono ?_; rintro e w2 ⟨rfl, n, rfl⟩)
      go_ret
      refine ⟨by simp [HT.out], ?_⟩
      have hb := HB2.out
      exact ⟨hb.os, hb.tape, hb.output, hb.size, hb.block⟩
end Go.Proofs.Ybulkalpg
