/-
  THE WALK of LawS1862CTable.
-/
import Derived.Test.YbulkalnqCWalks2
namespace Go.Proofs.Ybulkalnq
open Go.RowKit
attribute [local go_sem] run_store_float
attribute [local go_sem] bits_run

theorem bcell {W w1 : World} {B : Nat} (hb : Below B W w1) : (∀ b o, b < B → w1.cell? ⟨b, o, none⟩ = W.cell? ⟨b, o, none⟩) ∧ (∀ b o, b < B → w1.frozen? ⟨b, o, none⟩ = W.frozen? ⟨b, o, none⟩) :=
  ⟨fun b o h => hb.cell (p := ⟨b, o, none⟩) h, fun b o h => hb.frozen (p := ⟨b, o, none⟩) h⟩

/-- A parameter of the law: a struct of 11 cells. -/
abbrev parV (r d h : Int) (k1 i1 : Int) (f1 : Nat) (s1 : ByteArray) (k2 i2 : Int) (f2 : Nat) (s2 : ByteArray) : Array Value :=
  #[.int .i64 r, .int .i64 d, .int .i64 h, .int .u8 k1, .int .i64 i1, .float .f64 f1, .string s1, .int .u8 k2, .int .i64 i2, .float .f64 f2, .string s2]

section
variable (r d h : Int) (k1 i1 : Int) (f1 : Nat) (s1 : ByteArray) (k2 i2 : Int) (f2 : Nat) (s2 : ByteArray)
variable (r' d' h' : Int) (k1' i1' : Int) (f1' : Nat) (s1' : ByteArray) (k2' i2' : Int) (f2' : Nat) (s2' : ByteArray) (w : World)
set_option maxHeartbeats 1000000 in
theorem table_none (a1 : 0 ≤ k1) (b1 : k1 ≤ 255) (a2 : 0 ≤ k2) (b2 : k2 ≤ 255) (a1' : 0 ≤ k1') (b1' : k1' ≤ 255) (a2' : 0 ≤ k2') (b2' : k2' ≤ 255) :
    Calls Yba.prog 5 #[.agg (parV r d h k1 i1 f1 s1 k2 i2 f2 s2), .agg (parV 0 d' h' k1' i1' f1' s1' k2' i2' f2' s2')] w fun e w' =>
      e = .returned (.bool true) ∧ Below w.heap.size w w' := by
  go_enter Yba.func5, Yba.ntmps5
  go_wp2_with fail
  refine (clump_any r d h k1 i1 f1 s1 k2 i2 f2 s2 a1 b1 a2 b2 _).mono ?_
  rintro e w1 ⟨rfl, hb1⟩
  obtain ⟨hc1, hf1⟩ := bcell hb1
  have hz1 : w.heap.size + 1 < w1.heap.size := by have := hb1.size; simp at this; omega
  simp at hc1 hf1
  go_wp2_with fail
  refine (clump_any 0 d' h' k1' i1' f1' s1' k2' i2' f2' s2' a1' b1' a2' b2' _).mono ?_
  rintro e w2 ⟨rfl, hb2⟩
  obtain ⟨hc2, hf2⟩ := bcell hb2
  have hz2 : w1.heap.size < w2.heap.size := by have := hb2.size; simp at this; omega
  simp at hc2 hf2
  have hz3 : w1.heap.size < w2.heap.size + 1 := by omega
  have hz4 : w1.heap.size < w2.heap.size + 1 + 1 := by omega
  have hz5 : w1.heap.size < w2.heap.size + 1 + 1 + 1 := by omega
  go_wp2_with fail
  refine (merge_none r d (k1 % 4) i1 f1 s1 (k2 % 4) i2 f2 s2 h d' (k1' % 4) i1' f1' s1' (k2' % 4) i2' f2' s2' h' _ _ (by simp)).mono ?_
  rintro e w3 ⟨rfl, n, c, rfl⟩
  go_wp2_with (go_at_call 14; refine (cleq_same _ _ _ _ _ _ _ _ _ _ _ _).mono ?_; rintro e w4 ⟨rfl, hb4⟩)
  go_ret
  refine ⟨rfl, ?_⟩
  refine Below.trans ?_ (hb4.mono (B' := w.heap.size) (by simp; omega))
  repeat (first | apply below_dn | apply Below.drew | (refine Below.alloc ?_ (by first | omega | (simp; omega)) _))
  refine Below.trans ?_ (hb2.mono (B' := w.heap.size) (by simp; omega))
  refine Below.alloc ?_ (by omega) _
  refine Below.trans ?_ (hb1.mono (B' := w.heap.size) (by simp; omega))
  exact ((Below.refl _ _).alloc (Nat.le_refl _) _).alloc (by simp) _
set_option maxHeartbeats 1000000 in
theorem table_into (a1 : 0 ≤ k1) (b1 : k1 ≤ 255) (a2 : 0 ≤ k2) (b2 : k2 ≤ 255) (a1' : 0 ≤ k1') (b1' : k1' ≤ 255) (a2' : 0 ≤ k2') (b2' : k2' ≤ 255) (hm : (r' == 0) = false) :
    Calls Yba.prog 5 #[.agg (parV 0 d h k1 i1 f1 s1 k2 i2 f2 s2), .agg (parV r' d' h' k1' i1' f1' s1' k2' i2' f2' s2')] w fun e w' =>
      e = .returned (.bool true) ∧ Below w.heap.size w w' := by
  go_enter Yba.func5, Yba.ntmps5
  go_wp2_with fail
  refine (clump_any 0 d h k1 i1 f1 s1 k2 i2 f2 s2 a1 b1 a2 b2 _).mono ?_
  rintro e w1 ⟨rfl, hb1⟩
  obtain ⟨hc1, hf1⟩ := bcell hb1
  have hz1 : w.heap.size + 1 < w1.heap.size := by have := hb1.size; simp at this; omega
  simp at hc1 hf1
  go_wp2_with fail
  refine (clump_any r' d' h' k1' i1' f1' s1' k2' i2' f2' s2' a1' b1' a2' b2' _).mono ?_
  rintro e w2 ⟨rfl, hb2⟩
  obtain ⟨hc2, hf2⟩ := bcell hb2
  have hz2 : w1.heap.size < w2.heap.size := by have := hb2.size; simp at this; omega
  simp at hc2 hf2
  have hz3 : w1.heap.size < w2.heap.size + 1 := by omega
  have hz4 : w1.heap.size < w2.heap.size + 1 + 1 := by omega
  have hz5 : w1.heap.size < w2.heap.size + 1 + 1 + 1 := by omega
  go_wp2_with fail
  refine (merge_into d (k1 % 4) i1 f1 s1 (k2 % 4) i2 f2 s2 h r' d' (k1' % 4) i1' f1' s1' (k2' % 4) i2' f2' s2' h' _ _ (by simp) hm).mono ?_
  rintro e w3 ⟨rfl, n, c, rfl⟩
  go_wp2_with (go_at_call 14; refine (cleq_same _ _ _ _ _ _ _ _ _ _ _ _).mono ?_; rintro e w4 ⟨rfl, hb4⟩)
  go_ret
  refine ⟨rfl, ?_⟩
  refine Below.trans ?_ (hb4.mono (B' := w.heap.size) (by simp; omega))
  repeat (first | apply below_dn | apply Below.drew | (refine Below.alloc ?_ (by first | omega | (simp; omega)) _))
  refine Below.trans ?_ (hb2.mono (B' := w.heap.size) (by simp; omega))
  refine Below.alloc ?_ (by omega) _
  refine Below.trans ?_ (hb1.mono (B' := w.heap.size) (by simp; omega))
  exact ((Below.refl _ _).alloc (Nat.le_refl _) _).alloc (by simp) _
set_option maxHeartbeats 1000000 in
theorem table_both (a1 : 0 ≤ k1) (b1 : k1 ≤ 255) (a2 : 0 ≤ k2) (b2 : k2 ≤ 255) (a1' : 0 ≤ k1') (b1' : k1' ≤ 255) (a2' : 0 ≤ k2') (b2' : k2' ≤ 255) (hl : (r == 0) = false) (hm : (r' == 0) = false) :
    Calls Yba.prog 5 #[.agg (parV r d h k1 i1 f1 s1 k2 i2 f2 s2), .agg (parV r' d' h' k1' i1' f1' s1' k2' i2' f2' s2')] w fun e w' =>
      e = .returned (.bool true) ∧ Below w.heap.size w w' := by
  go_enter Yba.func5, Yba.ntmps5
  go_wp2_with fail
  refine (clump_any r d h k1 i1 f1 s1 k2 i2 f2 s2 a1 b1 a2 b2 _).mono ?_
  rintro e w1 ⟨rfl, hb1⟩
  obtain ⟨hc1, hf1⟩ := bcell hb1
  have hz1 : w.heap.size + 1 < w1.heap.size := by have := hb1.size; simp at this; omega
  simp at hc1 hf1
  go_wp2_with fail
  refine (clump_any r' d' h' k1' i1' f1' s1' k2' i2' f2' s2' a1' b1' a2' b2' _).mono ?_
  rintro e w2 ⟨rfl, hb2⟩
  obtain ⟨hc2, hf2⟩ := bcell hb2
  have hz2 : w1.heap.size < w2.heap.size := by have := hb2.size; simp at this; omega
  simp at hc2 hf2
  have hz3 : w1.heap.size < w2.heap.size + 1 := by omega
  have hz4 : w1.heap.size < w2.heap.size + 1 + 1 := by omega
  have hz5 : w1.heap.size < w2.heap.size + 1 + 1 + 1 := by omega
  go_wp2_with fail
  refine (merge_both r d (k1 % 4) i1 f1 s1 (k2 % 4) i2 f2 s2 h r' d' (k1' % 4) i1' f1' s1' (k2' % 4) i2' f2' s2' h' _ _ (by simp) hl hm).mono ?_
  rintro e w3 ⟨rfl, n, c, rfl⟩
  go_wp2_with (go_at_call 14; refine (cleq_same _ _ _ _ _ _ _ _ _ _ _ _).mono ?_; rintro e w4 ⟨rfl, hb4⟩)
  go_ret
  refine ⟨rfl, ?_⟩
  refine Below.trans ?_ (hb4.mono (B' := w.heap.size) (by simp; omega))
  repeat (first | apply below_dn | apply Below.drew | (refine Below.alloc ?_ (by first | omega | (simp; omega)) _))
  refine Below.trans ?_ (hb2.mono (B' := w.heap.size) (by simp; omega))
  refine Below.alloc ?_ (by omega) _
  refine Below.trans ?_ (hb1.mono (B' := w.heap.size) (by simp; omega))
  exact ((Below.refl _ _).alloc (Nat.le_refl _) _).alloc (by simp) _

theorem table_any (a1 : 0 ≤ k1) (b1 : k1 ≤ 255) (a2 : 0 ≤ k2) (b2 : k2 ≤ 255) (a1' : 0 ≤ k1') (b1' : k1' ≤ 255) (a2' : 0 ≤ k2') (b2' : k2' ≤ 255) :
    Calls Yba.prog 5 #[.agg (parV r d h k1 i1 f1 s1 k2 i2 f2 s2), .agg (parV r' d' h' k1' i1' f1' s1' k2' i2' f2' s2')] w fun e w' =>
      e = .returned (.bool true) ∧ Below w.heap.size w w' := by
  by_cases hm : r' = 0
  · subst hm; exact table_none r d h k1 i1 f1 s1 k2 i2 f2 s2 d' h' k1' i1' f1' s1' k2' i2' f2' s2' w a1 b1 a2 b2 a1' b1' a2' b2'
  · have hm' : (r' == 0) = false := by simpa using hm
    by_cases hl : r = 0
    · subst hl; exact table_into d h k1 i1 f1 s1 k2 i2 f2 s2 r' d' h' k1' i1' f1' s1' k2' i2' f2' s2' w a1 b1 a2 b2 a1' b1' a2' b2' hm'
    · have hl' : (r == 0) = false := by simpa using hl
      exact table_both r d h k1 i1 f1 s1 k2 i2 f2 s2 r' d' h' k1' i1' f1' s1' k2' i2' f2' s2' w a1 b1 a2 b2 a1' b1' a2' b2' hl' hm'
end
end Go.Proofs.Ybulkalnq
