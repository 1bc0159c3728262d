/-
  THE WALKS of the law's two closures and of (*idTable).find.
-/
import Derived.Test.YbulkalsmAPut
namespace Go.Proofs.Ybulkalsm
open Go.RowKit Tab
set_option linter.unusedVariables false

set_option maxRecDepth 100000 in
set_option maxHeartbeats 400000 in
theorem hash_any (B b off len cap i m n : Nat) (hv : Int) (w : World) (hb : b < B) (hni : n < i) (hil : i ≤ len) (hl : len ≤ 1024) (hm : m ≤ 10000000)
    (c2 : w.cell? ⟨B + 2, 0, none⟩ = some (.int .i64 m)) (f2 : w.frozen? ⟨B + 2, 0, none⟩ = false) (c4 : w.cell? ⟨B + 4, 0, none⟩ = some (.int .i32 i)) (c0 : w.cell? ⟨B, 0, none⟩ = some (.slice (some ⟨b, off, none⟩) len cap))
    (ch : w.cell? ⟨b, off + n, none⟩ = some (.int .u64 hv)) :
    Calls Yba.prog 6 #[.int .i32 n, .pointer (some ⟨B + 2, 0, none⟩), .pointer (some ⟨B + 4, 0, none⟩), .pointer (some ⟨B + 3, 0, none⟩), .pointer (some ⟨B, 0, none⟩)] w fun e w' =>
      e = .returned (.int .u64 hv) ∧ w' = w.setCell ⟨B + 2, 0, none⟩ (.int .i64 ((m : Int) + 1)) := by
  have b1 : (n : Int) < (i : Int) := by omega
  have b2 : ¬ (n : Int) < 0 := by omega
  have b3 : (n : Int) < (len : Int) := by omega
  go_enter Yba.func6, Yba.ntmps6
  go_wp2
  go_ret
  exact ⟨rfl, rfl⟩

theorem is_any (Bj : Nat) (n j : Int) (w : World) (cj : w.cell? ⟨Bj, 0, none⟩ = some (.int .i32 j)) :
    Calls Yba.prog 9 #[.int .i32 n, .pointer (some ⟨Bj, 0, none⟩)] w fun e w' => e = .returned (.bool (n == j)) ∧ w' = w := by
  go_enter Yba.func9, Yba.ntmps9
  go_wp2
  go_ret
  exact ⟨rfl, rfl⟩

set_option maxRecDepth 100000 in
set_option maxHeartbeats 1000000 in
theorem find_any (Bt Bj g c e : Nat) (T : List Int) (j h : Nat) (w : World) (hT : T.length = c) (he : c = 2 ^ e) (h1 : 1 ≤ c) (h2 : c ≤ 4096) (hj : j ≤ 4096) (hh : h < 18446744073709551616)
    (ht : w.cell? ⟨Bt, 0, none⟩ = some (.slice (some ⟨g, 0, none⟩) c c)) (hr : w.heap[g]? = some (.cells (cellsOf T) 21 (0, 0))) (cj : w.cell? ⟨Bj, 0, none⟩ = some (.int .i32 j))
    (hpos : ∀ p, p < T.length → slotAt T p ≠ 0 → 1 ≤ slotAt T p) (htop : ∀ p, p < T.length → slotAt T p ≤ 4096) (p0 : Nat) (hp0 : slotAt T p0 = (j : Int) + 1) (hrc : Tab.Reach T h p0) :
    Calls Yba.prog 8 #[.pointer (some ⟨Bt, 0, none⟩), .int .u64 h, .func (Fn.func 9) #[] #[.pointer (some ⟨Bj, 0, none⟩)]] w fun e w' => e = .returned (.int .i32 j) ∧ w' = w := by
  obtain ⟨d0, hd0, hdn⟩ := hrc
  rw [hT] at hd0 hdn
  have HR : Hid (w.heap[g]? = some (.cells (cellsOf T) 21 (0, 0))) := hr
  have HT : Hid (T.length = c) := hT
  have HE : Hid (c = 2 ^ e) := he
  have HD : Hid (slotAt T ((h + d0) % c) = (j : Int) + 1) := by show _ = _; rw [← hd0]; exact hp0
  have HN : Hid (∀ d', d' < d0 → slotAt T ((h + d') % c) ≠ 0) := hdn
  have HP : Hid (∀ p, p < T.length → slotAt T p ≠ 0 → 1 ≤ slotAt T p) := hpos
  have HTop : Hid (∀ p, p < T.length → slotAt T p ≤ 4096) := htop
  obtain ⟨i0, hi0⟩ : ∃ i0, i0 = h % c := ⟨_, rfl⟩
  have hm0 : bits BinOp.and IntKind.u64 (h : Int) ((c : Int) - 1) = (i0 : Int) := by rw [hi0]; exact mask_and h c e he h1 h2 hh
  have HI : Hid (i0 = h % c) := hi0
  have hc0 : ((c : Int) == 0) = false := by simp; omega
  clear hr hT he hi0 hd0 hdn hp0 hpos htop
  go_enter Yba.func8, Yba.ntmps8
  go_wp2
  clear hm0
  go_loopg [8] d0 (fun gk i wr => ∃ d p : Nat, i = .int .u64 (p : Int) ∧ Aside (p = (h + d) % c ∧ d + gk = d0) ∧ w = wr)
  case atStart => exact ⟨0, i0, rfl, ⟨HI.out, by omega⟩, rfl⟩
  case round =>
    obtain ⟨d, p, rfl, A, rfl⟩ := hrel
    have hpc : p < c := by rw [A.out.1]; exact Nat.mod_lt _ (by omega)
    have b1 : (p : Int) < (c : Int) := by omega
    have hcell := cell_row HR.out p (by rw [HT.out]; exact hpc)
    obtain ⟨p', hp'⟩ : ∃ p', p' = (p + 1) % c := ⟨_, rfl⟩
    have hm1 : bits BinOp.and IntKind.u64 ((p : Int) + 1) ((c : Int) - 1) = (p' : Int) := by rw [hp']; exact mask_next p c e HE.out h1 h2 hpc
    have HP' : Hid (p' = (p + 1) % c) := hp'
    clear hp'
    by_cases hx : slotAt T p = (j : Int) + 1
    · rw [hx] at hcell
      clear hx
      go_wp2_with (go_at_call 9; refine (is_any Bj _ _ _ cj).mono ?_; rintro e w' ⟨rfl, rfl⟩)
      go_ret
      exact ⟨rfl, rfl⟩
    · have hgk : 0 < gk := by
        rcases Nat.eq_zero_or_pos gk with h0 | h0
        · obtain ⟨a1, a3⟩ := A.out
          have : d = d0 := by omega
          rw [a1, this] at hx
          exact absurd HD.out hx
        · exact h0
      have hnz : slotAt T p ≠ 0 := by
        obtain ⟨a1, a3⟩ := A.out
        rw [a1]; exact HN.out d (by omega)
      have hlo := HP.out p (by rw [HT.out]; exact hpc) hnz
      have hhi := HTop.out p (by rw [HT.out]; exact hpc)
      obtain ⟨x, hxe⟩ : ∃ x, x = slotAt T p := ⟨_, rfl⟩
      rw [← hxe] at hcell hx hlo hhi
      have hne : (x - 1 == (j : Int)) = false := by simp; omega
      clear hnz hxe hx
      go_wp2_with (go_at_call 9; refine (is_any Bj _ _ _ cj).mono ?_; rintro e w' ⟨rfl, rfl⟩)
      go_roundg (gk - 1)
      case measure => omega
      case rel =>
        obtain ⟨a1, a3⟩ := A.out
        refine ⟨d + 1, p', rfl, ⟨?_, by omega⟩, rfl⟩
        rw [HP'.out]; exact next_mod h d c p a1
end Go.Proofs.Ybulkalsm
