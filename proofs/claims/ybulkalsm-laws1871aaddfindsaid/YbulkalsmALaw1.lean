/-
  (*idTable).add over the table as it stands; the first loop of LawS1871AAddFind.
-/
import Derived.Test.YbulkalsmAAdd
namespace Go.Proofs.Ybulkalsm
open Go.RowKit Tab
set_option linter.unusedVariables false

/-- How often the hash is asked when number k is added. -/
def askN (c k m : Nat) : Nat := if c < 2 * (k + 1) then m + k else m

theorem add_any (H : Nat → Nat) (B : Nat) (w0 w : World) (hsa : Option Addr) (len cap k m c : Nat) (hT : Tbl H B w0 w (.slice hsa len cap) k m k c) (hH : Hs B w0 hsa len H) (hkl : k < len) (hl : len ≤ 1024) (hm : m ≤ 5000000) :
    Calls Yba.prog 7 #[.pointer (some ⟨B + 1, 0, none⟩), .int .i32 k, .int .u64 (H k), hashF B] w fun e w' =>
      e = .returned (.tuple #[]) ∧ Tbl H B w0 w' (.slice hsa len cap) (k + 1) (askN c k m) k (capN c k) := by
  obtain ⟨ao, T, hS, hF, hTl, h2k, hc, hao⟩ := hT
  by_cases hg : c < 2 * (k + 1)
  · have hcap : capN c k = max 16 (2 * c) := by unfold capN; rw [if_pos hg]
    have hask : askN c k m = m + k := by unfold askN; rw [if_pos hg]
    have hpow : ∃ E, max 16 (2 * c) = 2 ^ E := by
      rcases hao with ⟨h0, _⟩ | ⟨g, e, _, _, _, he, h16⟩
      · exact ⟨4, by rw [h0]; rfl⟩
      · exact ⟨e + 1, by rw [Nat.pow_succ, ← he]; omega⟩
    obtain ⟨E, hE⟩ := hpow
    refine (add_grow H B w0 w hsa len cap k m c (max 16 (2 * c)) E ao T hS hH hkl hl hm hF hTl (by omega) h2k hg rfl hE fun h0 => ?_).mono ?_
    · rcases hao with ⟨h0', _⟩ | ⟨g, e, e1, e2, e3, _, _⟩
      · omega
      · exact ⟨g, e1, e2, e3⟩
    · rintro e w' ⟨he, g', T', hg5, hTl', hF', hS', hR'⟩
      rw [hcap, hask]
      exact ⟨he, some ⟨g', 0, none⟩, T', hS', hF', hTl', by omega, by omega, .inr ⟨g', E, rfl, hg5, hR', hE, by omega⟩⟩
  · have hcap : capN c k = c := by unfold capN; rw [if_neg hg]
    have hask : askN c k m = m := by unfold askN; rw [if_neg hg]
    rcases hao with ⟨h0, _⟩ | ⟨g, e, rfl, hg5, hR, he, h16⟩
    · omega
    · refine (add_room B w0 w (.slice hsa len cap) k m k g c e (H k) T hS hR hg5 hTl he h16 hc hF.count (by omega) (hH.small k hkl)).mono ?_
      rintro e' w' ⟨he', p, hp, hS', hR'⟩
      rw [hcap, hask]
      exact ⟨he', some ⟨g, 0, none⟩, T.set p ((k : Int) + 1), hS', full_put hF hp, by simpa using hTl, by omega, hc, .inr ⟨g, e, rfl, hg5, hR', he, h16⟩⟩

theorem Tbl.set_cur {H : Nat → Nat} {B : Nat} {w0 w : World} {hsv : Value} {k m i c : Nat} (h : Tbl H B w0 w hsv k m i c) (i' : Nat) : Tbl H B w0 (w.setCell ⟨B + 4, 0, none⟩ (.int .i32 i')) hsv k m i' c := by
  obtain ⟨ao, T, hS, hF, hTl, h2k, hc, hao⟩ := h
  refine ⟨ao, T, hS.set_cur i', hF, hTl, h2k, hc, ?_⟩
  rcases hao with h0 | ⟨g, e, e1, e2, e3, e4, e5⟩
  · exact .inl h0
  · exact .inr ⟨g, e, e1, e2, e3.set_other (by show g ≠ B + 4; omega) _, e4, e5⟩

/-- What the loop's own reckoning is behind k rounds: how often the hash is asked, how many slots there are. -/
def reck : Nat → Nat × Nat
  | 0 => (0, 0)
  | k + 1 => (askN (reck k).2 k (reck k).1, capN (reck k).2 k)
theorem reck_le (k : Nat) : (reck k).1 ≤ k * k := by
  induction k with
  | zero => exact Nat.le_refl _
  | succ k ih =>
    show askN (reck k).2 k (reck k).1 ≤ _
    unfold askN
    have : (k + 1) * (k + 1) = k * k + k + k + 1 := by rw [Nat.add_mul, Nat.mul_add]; omega
    split <;> omega
end Go.Proofs.Ybulkalsm
