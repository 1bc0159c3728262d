/-
  THE WALKS of zzs1865bless, compareIDs (and cmp.Compare, strings.Compare under it), zzs1865bagents, idsInOrder.
-/
import Derived.Test.YbulkalpgBParts
import Derived.Deep.QuietTactic
import Derived.BigQuiet
namespace Go.Proofs.Ybulkalpg
open Go.RowKit

theorem cmpstr_run (a b : ByteArray) (w : World) : (callFunc 17 #[.string a, .string b]).run Yba.prog w = .ok (.value (.int .i64 (Lib.compareBytes a.data.toList b.data.toList))) w := by
  rw [run_callFunc_extern Yba.func17 (by kernel_rfl) (by kernel_rfl) (by kernel_rfl) (e := Extern.BytealgCompare.compare) (by kernel_rfl), Lib.run_compareString]
  rfl
attribute [local go_sem] cmpstr_run

set_option maxHeartbeats 400000 in
theorem less_any (a b : ByteArray) (w : World) :
    Calls Yba.prog 9 #[.string a, .string b] w fun e w' => e = .returned (.bool (lessB a b)) ∧ w' = w := by
  by_cases h : a.size = b.size
  · have hl : lessB a b = Op.bytesLess a.toList b.toList := by simp [lessB, h]
    rw [hl]
    have h' : ((a.size : Int) != (b.size : Int)) = false := by simp [h]
    clear hl h
    go_enter Yba.func9, Yba.ntmps9
    go_wp2
    go_ret
    exact ⟨rfl, rfl⟩
  · have hl : lessB a b = decide (a.size < b.size) := by simp [lessB, h]
    rw [hl]
    have h' : ((a.size : Int) != (b.size : Int)) = true := by simp; omega
    clear hl h
    go_enter Yba.func9, Yba.ntmps9
    go_wp2
    go_ret
    exact ⟨rfl, rfl⟩

/-- compareIDs. -/
def cmpI (a b : ByteArray) : Int := if a.size < b.size then -1 else if b.size < a.size then 1 else Lib.compareBytes a.data.toList b.data.toList
theorem cmpI_neg (a b : ByteArray) : lessB a b = decide (cmpI a b < 0) := by
  unfold lessB cmpI
  rcases Nat.lt_trichotomy a.size b.size with h | h | h
  · rw [if_neg (by omega), if_pos h, decide_eq_true h]; rfl
  · rw [if_pos h, if_neg (by omega), if_neg (by omega), less_cmp, ByteArray.toList_eq, ByteArray.toList_eq]
  · rw [if_neg (by omega), if_neg (by omega), if_pos h, decide_eq_false (by omega)]; rfl

theorem cmpIDs_any (a b : ByteArray) (w : World) :
    Calls Yba.prog 12 #[.string a, .string b] w fun e w' => e = .returned (.int .i64 (cmpI a b)) ∧ w' = w := by
  rcases Nat.lt_trichotomy a.size b.size with h | h | h
  · have hl : cmpI a b = -1 := by unfold cmpI; rw [if_pos h]
    rw [hl]
    have h1 : (a.size : Int) < (b.size : Int) := by omega
    clear hl h
    go_enter Yba.func12, Yba.ntmps12
    go_wp2
    go_ret
    exact ⟨rfl, rfl⟩
  · have hl : cmpI a b = Lib.compareBytes a.data.toList b.data.toList := by unfold cmpI; rw [if_neg (by omega), if_neg (by omega)]
    rw [hl]
    have h1 : ¬ (a.size : Int) < (b.size : Int) := by omega
    have h2 : ¬ (b.size : Int) < (a.size : Int) := by omega
    clear hl h
    go_enter Yba.func12, Yba.ntmps12
    go_wp2
    go_ret
    exact ⟨rfl, rfl⟩
  · have hl : cmpI a b = 1 := by unfold cmpI; rw [if_neg (by omega), if_pos h]
    rw [hl]
    have h1 : ¬ (a.size : Int) < (b.size : Int) := by omega
    have h2 : (b.size : Int) < (a.size : Int) := by omega
    clear hl h
    go_enter Yba.func12, Yba.ntmps12
    go_wp2
    go_ret
    exact ⟨rfl, rfl⟩

/-! ### agents -/
/-- An Agent's zero. -/
def agentZero : Value := .agg #[.string ByteArray.empty, .pointer none, .pointer none, .string ByteArray.empty, .pointer none, .pointer none, .pointer none, .pointer none, .pointer none, .pointer none, .pointer none, .pointer none, .pointer none, .pointer none, .pointer none, .pointer none, .pointer none, .pointer none, .pointer none, .map none, .pointer none, .pointer none]
theorem info54 : (Yba.prog.info? 54).map (fun i => (i.zero, i.size, i.bytes)) = some (some agentZero, 22, 192) := by kernel_rfl

/-- The block of agents: k of n ids are set. -/
def Agents (w : World) (g n k : Nat) (s : Nat → ByteArray) : Prop :=
  ∃ cur : Array Value, w.heap[g]? = some (.cells cur 54 (0, 0)) ∧ cur.size = n * 22 ∧ ∀ j, j < k → cur[j * 22]? = some (.string (s j))

theorem Agents.cell {w : World} {g n k : Nat} {s : Nat → ByteArray} (h : Agents w g n k s) (j : Nat) (hj : j < k) : w.cell? ⟨g, j * 22, none⟩ = some (.string (s j)) := by
  obtain ⟨cur, hh, _, hc⟩ := h
  simp only [World.cell?, hh]
  exact hc j hj
theorem Agents.old {w : World} {g n k : Nat} {s : Nat → ByteArray} (h : Agents w g n k s) (hk : k < n) : ∃ v, w.cell? ⟨g, k * 22, none⟩ = some v ∧ w.frozen? ⟨g, k * 22, none⟩ = false := by
  obtain ⟨cur, hh, hs, _⟩ := h
  have hlt : k * 22 < cur.size := by omega
  exact ⟨cur[k * 22], by simp [World.cell?, hh, hlt], by simp [World.frozen?, hh]⟩
theorem Agents.set {w : World} {g n k : Nat} {s : Nat → ByteArray} (h : Agents w g n k s) (hk : k < n) : Agents (w.setCell ⟨g, k * 22, none⟩ (.string (s k))) g n (k + 1) s := by
  obtain ⟨cur, hh, hs, hc⟩ := h
  refine ⟨cur.setIfInBounds (k * 22) (.string (s k)), ?_, by simpa using hs, fun j hj => ?_⟩
  · rw [setCell_eq_setRow w g (k * 22) cur 54 (0, 0) _ hh]
    exact setRow_heap w g _ _ 54 _ hh
  · by_cases e : j = k
    · subst e
      rw [Array.getElem?_setIfInBounds_self_of_lt (by omega)]
    · rw [Array.getElem?_setIfInBounds_ne (by omega)]
      exact hc j (by omega)

set_option maxRecDepth 100000 in
set_option maxHeartbeats 1000000 in
theorem agents_any (ao : Option Addr) (len cap : Nat) (s : Nat → ByteArray) (w : World) (h1 : len ≤ 1024) (hcells : ∀ j, j < len → ∃ b off, ao = some ⟨b, off, none⟩ ∧ w.cell? ⟨b, off + j, none⟩ = some (.string (s j))) :
    Calls Yba.prog 8 #[.slice ao len cap] w fun e w' => e = .returned (.slice (some ⟨w.heap.size, 0, none⟩) len len) ∧ Agents w' w.heap.size len len s ∧ Below w.heap.size w w' := by
  obtain ⟨i0, hi, hz0, hz1, hz2⟩ := info_parts info54
  have HC : Hid (∀ j, j < len → ∃ b off, ao = some ⟨b, off, none⟩ ∧ w.cell? ⟨b, off + j, none⟩ = some (.string (s j))) := hcells
  clear hcells
  go_enter Yba.func8, Yba.ntmps8
  go_wp2_with (at_make; refine wpList_make_full _ rfl _ _ 35 rfl w.heap.size 54 i0 agentZero 22 Yba.underlying35 hi hz0 hz1 .i64 .i64 _ _ len rfl rfl rfl rfl (by rw [hz2]; omega) (by unfold maxLen; omega) (Nat.le_refl _) ?_)
  intro w1 own1 gr1
  have hb1 : Below w.heap.size w w1 := (Below.refl _ _).grown gr1 (Nat.le_refl _) (by simp)
  have hA1 : Agents w1 w.heap.size len 0 s := by
    rcases own1.2 with ⟨hv, _⟩ | ⟨g', cap', cur, hv, _, hh, _, _, hs, _⟩
    · simp at hv
    · simp only [Value.slice.injEq, Option.some.injEq, Addr.mk.injEq] at hv
      obtain ⟨⟨rfl, _⟩, _, rfl⟩ := hv
      exact ⟨cur, hh, hs, fun j hj => by omega⟩
  have HB1 : Hid (Below w.heap.size w w1) := hb1
  have HA1 : Hid (Agents w1 w.heap.size len 0 s) := hA1
  clear own1 gr1 hb1 hA1 hi hz0 hz1 hz2
  go_wp2
  go_loopw [4] (fun i wr => ∃ k : Nat, k ≤ len ∧ i = .int .i64 k ∧ Hid (Agents wr w.heap.size len k s) ∧ Hid (Below w.heap.size w wr)) (fun i _ => len - (intOf i).toNat)
  case atStart => exact ⟨0, Nat.zero_le _, rfl, HA1, HB1⟩
  case round =>
    obtain ⟨k, hk, rfl, HA, HB⟩ := hrel
    clear HA1 HB1
    by_cases hlt : k < len
    · obtain ⟨b, off, rfl, hc⟩ := HC.out k hlt
      have hbl := World.block_lt_of_cell? w _ hc
      have hcr : wr.cell? ⟨b, off + k, none⟩ = some (.string (s k)) := (HB.out.cell (p := ⟨b, off + k, none⟩) hbl).trans hc
      obtain ⟨v, hv, hf⟩ := HA.out.old hlt
      clear hc
      have HA' : Hid (Agents (wr.setCell ⟨w.heap.size, k * 22, none⟩ (.string (s k))) w.heap.size len (k + 1) s) := HA.out.set hlt
      have HB' : Hid (Below w.heap.size w (wr.setCell ⟨w.heap.size, k * 22, none⟩ (.string (s k)))) := HB.out.setCell (Nat.le_refl _) _
      clear HA HB
      go_wp2
      go_roundw
      case rel => exact ⟨k + 1, by omega, by go_num, HA', HB'⟩
      case measure => simp [intOf]; omega
    · obtain rfl : k = len := by omega
      go_wp2
      go_ret
      exact ⟨rfl, HA.out, HB.out⟩

/-! ### idsInOrder -/
theorem drewN_more {w wr : World} (h : ∃ n, wr = w.drewN n) (m : Nat) : ∃ n, wr.drewN m = w.drewN n := by
  obtain ⟨n, rfl⟩ := h
  exact ⟨n + m, World.drewN_drewN ..⟩
set_option maxRecDepth 100000 in
set_option maxHeartbeats 1000000 in
theorem ordered_any (g len : Nat) (s : Nat → ByteArray) (w : World) (h1 : len ≤ 1024) (hA : Agents w g len len s) :
    Calls Yba.prog 10 #[.slice (some ⟨g, 0, none⟩) len len] w fun e w' => e = .returned (.bool (ordB s len)) ∧ ∃ n, w' = w.drewN n := by
  have HA : Hid (Agents w g len len s) := hA
  clear hA
  go_enter Yba.func10, Yba.ntmps10
  go_wp2
  go_loopw [3] (fun i wr => ∃ j : Nat, (j + 1 ≤ len ∨ j = 0) ∧ i = .int .i64 ((j : Int) + 1) ∧ Hid (ordB s (j + 1) = true) ∧ Hid (∃ n, wr = w.drewN n)) (fun i _ => len - (intOf i).toNat)
  case atStart => exact ⟨0, .inr rfl, rfl, rfl, ⟨0, rfl⟩⟩
  case round =>
    obtain ⟨j, hj, rfl, HO, HW⟩ := hrel
    have HA2 : Hid (Agents wr g len len s) := by obtain ⟨n, rfl⟩ := HW.out; exact HA.out
    by_cases hlt : j + 1 < len
    · have c1 := HA2.out.cell j (by omega)
      have c2 := HA2.out.cell (j + 1) hlt
      have b1 : (j : Int) + 1 < (len : Int) := by omega
      have b2 : (j : Int) < (len : Int) := by omega
      have b0 : (0 : Int) ≤ (j : Int) + 1 := by omega
      have t1 : ((j : Int) + 1).toNat = j + 1 := by omega
      have w1 : IntKind.i64.wrap (j : Int) = (j : Int) := by rw [IntKind.wrap_i64]; omega
      by_cases hc : cmpI (s j) (s (j + 1)) < 0
      · have HO' : Hid (ordB s (j + 1 + 1) = true) := by
          show _ = _
          rw [ordB_succ s (j + 1) (by omega), HO.out, Nat.add_sub_cancel, cmpI_neg, decide_eq_true hc]; rfl
        have hc' : decide ((0 : Int) ≤ cmpI (s j) (s (j + 1))) = false := by simp; omega
        clear hj hc
        go_wp2_with fail
        go_quiet ((go_at_call 12; exact Calls.quiet_of_same (cmpIDs_any _ _ _)))
        go_wp2
        go_roundw
        case rel => exact ⟨j + 1, .inl (by omega), by go_num, HO', drewN_more HW.out _⟩
        case measure => simp [intOf]; omega
      · have HF : Hid (ordB s len = false) := by
          show _ = _
          refine ordB_le s (j + 1 + 1) len (by omega) ?_
          rw [ordB_succ s (j + 1) (by omega), HO.out, Nat.add_sub_cancel, cmpI_neg, decide_eq_false hc]; rfl
        have hc' : (0 : Int) ≤ cmpI (s j) (s (j + 1)) := by omega
        clear hj hc
        go_wp2_with fail
        go_quiet ((go_at_call 12; exact Calls.quiet_of_same (cmpIDs_any _ _ _)))
        go_wp2
        go_ret
        exact ⟨by rw [HF.out]; rfl, drewN_more HW.out _⟩
    · have HT : Hid (ordB s len = true) := by
        show _ = _
        rcases hj with h | h
        · have : j + 1 = len := by omega
          rw [← this]; exact HO.out
        · have : len = 0 ∨ len = 1 := by omega
          rcases this with e | e <;> rw [e] <;> rfl
      clear hj
      go_wp2
      go_ret
      exact ⟨by rw [HT.out]; rfl, HW.out⟩
end Go.Proofs.Ybulkalpg
