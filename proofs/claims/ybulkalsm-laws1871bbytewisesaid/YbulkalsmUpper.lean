/-
  upperASCII: plain, and its walk.
-/
import Derived.Test.YbulkalsmBWalks
import Derived.Lib.Strings
namespace Go.Proofs.Ybulkalsm
open Go.RowKit

/-- A byte raised. -/
def upU (c : UInt8) : UInt8 := if 97 ≤ c.toNat ∧ c.toNat ≤ 122 then UInt8.ofNat (c.toNat - 32) else c
theorem upU_toNat (c : UInt8) : ((upU c).toNat : Int) = up (c.toNat : Int) := by
  unfold upU up
  have hc : c.toNat < 256 := c.toNat_lt
  by_cases h : 97 ≤ c.toNat ∧ c.toNat ≤ 122
  · rw [if_pos h, if_pos (by omega)]
    simp
    omega
  · rw [if_neg h, if_neg (by omega)]
theorem upU_eq (c : UInt8) (h : up (c.toNat : Int) = (c.toNat : Int)) : upU c = c := by
  have := upU_toNat c
  rw [h] at this
  exact UInt8.toNat_inj.1 (by omega)
/-- upperASCII. -/
def upS (s : ByteArray) : ByteArray := ⟨(s.data.toList.map upU).toArray⟩
theorem upS_same (s : ByteArray) (h : ∀ c ∈ s.data.toList, upU c = c) : upS s = s := by
  unfold upS
  rw [List.map_congr_left (g := id) h]
  simp

theorem drewN_more {w wr : World} (h : ∃ n, wr = w.drewN n) (m : Nat) : ∃ n, wr.drewN m = w.drewN n := by
  obtain ⟨n, rfl⟩ := h
  exact ⟨n + m, World.drewN_drewN ..⟩
theorem below_dn {B n : Nat} {a w : World} (h : Below B a w) : Below B a (w.drewN n) := ⟨h.os, h.tape, h.output, h.size, h.block⟩

theorem getElem_data (s : ByteArray) (k : Nat) (h : k < s.size) : s.data.toList[k]'(by simpa using h) = s[k] := rfl
theorem take_snoc (s : ByteArray) (k : Nat) (h : k < s.size) : s.data.toList.take (k + 1) = s.data.toList.take k ++ [s[k]] := by
  rw [List.take_succ_eq_append_getElem (by simpa using h)]; rfl
theorem cells_snoc (s : ByteArray) (k : Nat) (h : k < s.size) : Lib.byteCells ((s.data.toList.take (k + 1)).map upU) = Lib.byteCells ((s.data.toList.take k).map upU) ++ [.int .u8 (up (s[k].toNat : Int))] := by
  rw [take_snoc s k h, List.map_append, Lib.byteCells, List.map_append, ← upU_toNat]
  rfl
theorem cells_head (s : ByteArray) (k : Nat) (hk : k ≤ s.size) (h : ∀ j (hj : j < s.size), j < k → upU s[j] = s[j]) : Lib.strCells (s.extract 0 k) = Lib.byteCells ((s.data.toList.take k).map upU) := by
  rw [Lib.strCells_eq, Lib.extract_data, List.drop_zero, Nat.sub_zero]
  have e : (s.data.toList.take k).map upU = (s.data.toList.take k).map id := List.map_congr_left fun c hc => by
    obtain ⟨j, hj, rfl⟩ := List.getElem_of_mem hc
    have hjk : j < k := by rw [List.length_take] at hj; omega
    rw [List.getElem_take]
    exact h j (by omega) hjk
  rw [e, List.map_id]
theorem upS_all (s : ByteArray) (h : ∀ j (hj : j < s.size), upU s[j] = s[j]) : upS s = s := by
  refine upS_same s fun c hc => ?_
  obtain ⟨j, hj, rfl⟩ := List.getElem_of_mem hc
  exact h j (by simpa using hj)

set_option maxRecDepth 100000 in
set_option maxHeartbeats 2000000 in
theorem upper_any (s : ByteArray) (w : World) (hs : s.size ≤ 4096) :
    Calls Yba.prog 10 #[.string s] w fun e w' => e = .returned (.string (upS s)) ∧ Below w.heap.size w w' := by
  go_enter Yba.func10, Yba.ntmps10
  go_wp2
  go_loopw [3] (fun i wr => ∃ k : Nat, k ≤ s.size ∧ i = .int .i64 k ∧ Hid (∀ j (hj : j < s.size), j < k → upU s[j] = s[j]) ∧ Hid (∃ n, wr = w.drewN n)) (fun i _ => s.size - (intOf i).toNat)
  case atStart => exact ⟨0, Nat.zero_le _, rfl, fun j _ hj => by omega, ⟨0, rfl⟩⟩
  case round =>
    obtain ⟨k, hk, rfl, HU, HW⟩ := hrel
    by_cases hlt : k < s.size
    · have b1 : (k : Int) < (s.size : Int) := by omega
      have hc : s[k].toNat < 256 := s[k].toNat_lt
      by_cases he : up (s[k].toNat : Int) = (s[k].toNat : Int)
      · have he' : (up (s[k].toNat : Int) == (s[k].toNat : Int)) = true := by simpa using he
        have HU' : Hid (∀ j (hj : j < s.size), j < k + 1 → upU s[j] = s[j]) := fun j hj hjk => by
          by_cases e : j = k
          · subst e; exact upU_eq _ he
          · exact HU.out j hj (by omega)
        clear he HU
        go_wp2_with fail
        go_quiet ((go_at_call 13; exact Calls.quiet_of_same (up_any _ (by omega) (by omega) _)))
        go_wp2
        go_roundw
        case rel => exact ⟨k + 1, by omega, by go_num, HU', drewN_more HW.out _⟩
        case measure => simp [intOf]; omega
      · have he' : (up (s[k].toNat : Int) == (s[k].toNat : Int)) = false := by simpa using he
        have hks : ((k : Int) == (s.size : Int)) = false := by simp; omega
        clear he
        go_wp2_with fail
        go_quiet ((go_at_call 13; exact Calls.quiet_of_same (up_any _ (by omega) (by omega) _)))
        obtain ⟨wo, rfl⟩ : ∃ wo : World, wo = wr := ⟨_, rfl⟩
        go_wp2_with fail
        refine (Yba.Builder_Grow_fresh wo.heap.size wo.heap.size s.size _ (Nat.le_refl _) (by exact heap_alloc_new _ _) (by simp) (by omega)).mono ?_
        rintro e w1 ⟨rfl, hP1, hb1⟩
        have hz1 : wo.heap.size ≤ w1.heap.size := by have := hb1.size; simp at this; omega
        have HP1 := hid hP1
        have HB1 := hid (((below_dn (n := nq) (Below.refl wo.heap.size wo)).alloc (Nat.le_refl _) _).trans hb1)
        clear hP1 hb1
        go_wp2_with fail
        refine (writeString_any wo.heap.size wo.heap.size [] (s.extract 0 k) _ HP1.out (by simp; omega) hz1).mono ?_
        rintro e w2 ⟨rfl, hP2, hb2⟩
        have hz2 : wo.heap.size ≤ w2.heap.size := by have := hb2.size; omega
        have HP2 : Hid (Bld wo.heap.size wo.heap.size (Lib.byteCells ((s.data.toList.take k).map upU)) w2) := by
          have := hP2
          rw [List.nil_append, cells_head s k (by omega) HU.out] at this
          exact this
        have HB2 := hid (HB1.out.trans hb2)
        clear hP2 hb2 HP1 HB1 HU
        go_wp2
        go_loopw [3] (fun i wr => ∃ m : Nat, m ≤ s.size ∧ i = .int .i64 m ∧ Hid (Bld wo.heap.size wo.heap.size (Lib.byteCells ((s.data.toList.take m).map upU)) wr) ∧ Hid (Below wo.heap.size wo wr)) (fun i _ => s.size - (intOf i).toNat)
        case atStart => exact ⟨k, by omega, rfl, HP2, HB2⟩
        case round =>
          obtain ⟨m, hm, rfl, HP3, HB3⟩ := hrel
          clear HP2 HB2 hc
          by_cases hml : m < s.size
          · have hc3 : s[m].toNat < 256 := s[m].toNat_lt
            go_wp2_with (go_at_call 13; refine (up_any _ (by omega) (by omega) _).mono ?_; rintro e w3 ⟨rfl, rfl⟩)
            refine (writeByte_any wo.heap.size wo.heap.size _ _ _ HP3.out (by rw [Lib.byteCells_length, List.length_map, List.length_take]; omega) HB3.out.size).mono ?_
            rintro e w4 ⟨rfl, hP4, hb4⟩
            have HP4 : Hid (Bld wo.heap.size wo.heap.size (Lib.byteCells ((s.data.toList.take (m + 1)).map upU)) w4) := by
              show Bld _ _ _ _
              rw [cells_snoc s m hml]
              exact hP4
            have HB4 := hid (HB3.out.trans hb4)
            clear hP4 hb4 HP3 HB3
            go_wp2
            go_roundw
            case rel => exact ⟨m + 1, by omega, by go_num, HP4, HB4⟩
            case measure => simp [intOf]; omega
          · have HP5 : Hid (Bld wo.heap.size wo.heap.size (Lib.byteCells (s.data.toList.map upU)) wr) := by
              have := HP3.out
              rw [List.take_of_length_le (by simp; omega)] at this
              exact this
            clear HP3
            go_wp2_with fail
            refine (Yba.Builder_String_any wo.heap.size wo.heap.size (s.data.toList.map upU) _ (.inr HP5.out) HB3.out.size).mono ?_
            rintro e w5 ⟨rfl, hb5⟩
            have HB5 := hid (HB3.out.trans hb5)
            clear hb5 HB3 HP5
            go_wp2
            go_ret
            refine ⟨rfl, ?_⟩
            obtain ⟨n, rfl⟩ := HW.out
            exact (below_dn (n := n) (Below.refl w.heap.size w)).trans HB5.out
    · have b1 : decide ((k : Int) < (s.size : Int)) = false := by simp; omega
      have hks : ((k : Int) == (s.size : Int)) = true := by simp; omega
      have HS : Hid (upS s = s) := upS_all s fun j hj => HU.out j hj (by omega)
      clear HU
      go_wp2_with fail
      go_quiet ((go_at_call 13; exact Calls.quiet_of_same (up_any _ (by omega) (by omega) _)))
      go_wp2
      go_ret
      refine ⟨by rw [HS.out]; rfl, ?_⟩
      obtain ⟨n, rfl⟩ := HW.out
      exact below_dn (below_dn (Below.refl _ _))
end Go.Proofs.Ybulkalsm
