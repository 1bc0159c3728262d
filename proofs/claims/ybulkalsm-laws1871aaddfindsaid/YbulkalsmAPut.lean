/-
  THE WALK of (*idTable).put.
-/
import Derived.Test.YbulkalsmRows
import Derived.Test.YbulkalsmTable
import Derived.WalkKit
import Derived.WalkSpells
import Derived.WalkLawsBesides
import Derived.Deep.QuietTactic
import Derived.BigQuiet
import Derived.Deep.LoopGhost
namespace Go.Proofs.Ybulkalsm
open Go.RowKit Tab

/-- A row of int32s, as cells. -/
def cellsOf (T : List Int) : Array Value := (T.map (Value.int .i32)).toArray
theorem cell_row {w : World} {g : Nat} {T : List Int} (h : w.heap[g]? = some (.cells (cellsOf T) 21 (0, 0))) (p : Nat) (hp : p < T.length) : w.cell? ⟨g, p, none⟩ = some (.int .i32 (slotAt T p)) := by
  simp only [World.cell?, h, cellsOf]
  simp [slotAt, hp]
theorem free_row {w : World} {g : Nat} {T : List Int} (h : w.heap[g]? = some (.cells (cellsOf T) 21 (0, 0))) (p : Nat) : w.frozen? ⟨g, p, none⟩ = false := by simp [World.frozen?, h]

/-- 'x & (c - 1)', c a power of two. -/
theorem mask_and (x c e : Nat) (hc : c = 2 ^ e) (h1 : 1 ≤ c) (h2 : c ≤ 4096) (hx : x < 18446744073709551616) : bits BinOp.and IntKind.u64 (x : Int) ((c : Int) - 1) = ((x % c : Nat) : Int) := by
  have h := bits_and_u64_nat x (c - 1) (by omega) (by omega)
  rw [show ((c - 1 : Nat) : Int) = (c : Int) - 1 by omega] at h
  rw [h, hc, Nat.and_two_pow_sub_one_eq_mod]
theorem mask_next (x c e : Nat) (hc : c = 2 ^ e) (h1 : 1 ≤ c) (h2 : c ≤ 4096) (hx : x < c) : bits BinOp.and IntKind.u64 ((x : Int) + 1) ((c : Int) - 1) = (((x + 1) % c : Nat) : Int) := by
  have := mask_and (x + 1) c e hc h1 h2 (by omega)
  rw [show ((x + 1 : Nat) : Int) = (x : Int) + 1 by omega] at this
  exact this
theorem next_mod (h d c p : Nat) (hp : p = (h + d) % c) : (p + 1) % c = (h + (d + 1)) % c := by
  rw [hp, ← Nat.add_assoc, Nat.mod_add_mod]

set_option maxRecDepth 100000 in
set_option maxHeartbeats 1000000 in
theorem put_any (Bt g c e : Nat) (T : List Int) (n h : Nat) (w : World) (hT : T.length = c) (he : c = 2 ^ e) (h1 : 1 ≤ c) (h2 : c ≤ 4096) (hn : n ≤ 4096) (hh : h < 18446744073709551616)
    (ht : w.cell? ⟨Bt, 0, none⟩ = some (.slice (some ⟨g, 0, none⟩) c c)) (hr : w.heap[g]? = some (.cells (cellsOf T) 21 (0, 0))) (hz : nz T < c) :
    Calls Yba.prog 12 #[.pointer (some ⟨Bt, 0, none⟩), .int .i32 n, .int .u64 h] w fun e w' => e = .returned (.tuple #[]) ∧ ∃ p, PutAt T h p ∧ w' = w.setCell ⟨g, p, none⟩ (.int .i32 ((n : Int) + 1)) := by
  obtain ⟨z, hzl, hz0⟩ := zero_of T (by omega)
  obtain ⟨d0, hd0, hdz⟩ := probe_to c h z (by omega)
  have HR : Hid (w.heap[g]? = some (.cells (cellsOf T) 21 (0, 0))) := hr
  have HT : Hid (T.length = c) := hT
  have HE : Hid (c = 2 ^ e) := he
  have HD : Hid (slotAt T ((h + d0) % c) = 0) := by show _ = _; rw [hdz]; exact hz0
  obtain ⟨i0, hi0⟩ : ∃ i0, i0 = h % c := ⟨_, rfl⟩
  have hm0 : bits BinOp.and IntKind.u64 (h : Int) ((c : Int) - 1) = (i0 : Int) := by rw [hi0]; exact mask_and h c e he h1 h2 hh
  have HI : Hid (i0 = h % c) := hi0
  clear hr hT he hi0 hzl hz0 hdz hz
  go_enter Yba.func12, Yba.ntmps12
  go_wp2
  clear hm0
  go_loopg [7] d0 (fun gk i wr => ∃ d p : Nat, i = .int .u64 (p : Int) ∧ Aside (p = (h + d) % c ∧ (∀ d', d' < d → slotAt T ((h + d') % c) ≠ 0) ∧ d + gk = d0) ∧ w = wr)
  case atStart => exact ⟨0, i0, rfl, ⟨HI.out, fun d' h => by omega, by omega⟩, rfl⟩
  case round =>
    obtain ⟨d, p, rfl, A, rfl⟩ := hrel
    have hpc : p < c := by rw [A.out.1]; exact Nat.mod_lt _ (by omega)
    have b1 : (p : Int) < (c : Int) := by omega
    have hcell := cell_row HR.out p (by rw [HT.out]; exact hpc)
    have hfree := free_row HR.out p
    obtain ⟨p', hp'⟩ : ∃ p', p' = (p + 1) % c := ⟨_, rfl⟩
    have hm1 : bits BinOp.and IntKind.u64 ((p : Int) + 1) ((c : Int) - 1) = (p' : Int) := by rw [hp']; exact mask_next p c e HE.out h1 h2 hpc
    have HP' : Hid (p' = (p + 1) % c) := hp'
    clear hp'
    by_cases hx : slotAt T p = 0
    · have hx' : (slotAt T p != 0) = false := by simp [hx]
      have HX : Hid (slotAt T p = 0) := hx
      clear hx
      go_wp2
      first | go_end0 | refine bodyPost_ret (results_none rfl _ _ _) rfl ?_
      refine ⟨rfl, p, ⟨by rw [HT.out]; exact hpc, HX.out, d, ?_, ?_⟩, rfl⟩
      · rw [HT.out]; exact A.out.1
      · rw [HT.out]; exact A.out.2.1
    · have hx' : (slotAt T p != 0) = true := by simpa using hx
      have hgk : 0 < gk := by
        rcases Nat.eq_zero_or_pos gk with h0 | h0
        · obtain ⟨a1, a2, a3⟩ := A.out
          have : d = d0 := by omega
          rw [a1, this] at hx
          exact absurd HD.out hx
        · exact h0
      have HX : Hid (slotAt T p ≠ 0) := hx
      clear hx
      go_wp2
      go_roundg (gk - 1)
      case measure => omega
      case rel =>
        obtain ⟨a1, a2, a3⟩ := A.out
        refine ⟨d + 1, p', rfl, ⟨?_, fun d' hd' => ?_, by omega⟩, rfl⟩
        · rw [HP'.out]; exact next_mod h d c p a1
        · by_cases e' : d' = d
          · rw [e', ← a1]; exact HX.out
          · exact a2 d' (by omega)
end Go.Proofs.Ybulkalsm
