/-
  THE WALKS on the road of LawS1862CTable, second part: zzs1862clump, (*lump).merge, zzs1862cleq at equal operands.
-/
import Derived.Test.YbulkalnqCWalks
namespace Go.Proofs.Ybulkalnq
open Go.RowKit
attribute [local go_sem] run_store_float
attribute [local go_sem] bits_run

theorem below_dn {B n : Nat} {a w : World} (h : Below B a w) : Below B a (w.drewN n) := ⟨h.os, h.tape, h.output, h.size, h.block⟩

/-- A lump's value, as 'Value' fields: a struct of 11 cells. -/
abbrev lumpV (r d : Int) (k1 i1 : Int) (f1 : Nat) (s1 : ByteArray) (k2 i2 : Int) (f2 : Nat) (s2 : ByteArray) (h : Int) : Array Value :=
  #[.int .i64 r, .int .i64 d, .int .i64 k1, .int .i64 i1, .float .f64 f1, .string s1, .int .i64 k2, .int .i64 i2, .float .f64 f2, .string s2, .int .i64 h]

set_option maxHeartbeats 1000000 in
theorem clump_any (r d h : Int) (k1 i1 : Int) (f1 : Nat) (s1 : ByteArray) (k2 i2 : Int) (f2 : Nat) (s2 : ByteArray) (a1 : 0 ≤ k1) (b1 : k1 ≤ 255) (a2 : 0 ≤ k2) (b2 : k2 ≤ 255) (w : World) :
    Calls Yba.prog 12 #[.agg #[.int .i64 r, .int .i64 d, .int .i64 h, .int .u8 k1, .int .i64 i1, .float .f64 f1, .string s1, .int .u8 k2, .int .i64 i2, .float .f64 f2, .string s2]] w fun e w' =>
      e = .returned (.agg (lumpV r d (k1 % 4) i1 f1 s1 (k2 % 4) i2 f2 s2 h)) ∧ Below w.heap.size w w' := by
  go_enter Yba.func12, Yba.ntmps12
  go_wp2_with fail
  go_region_held3 (fun w' => w'.cell? ⟨w.heap.size, 0, none⟩ = some (.int .i64 r) ∧ w'.cell? ⟨w.heap.size, 1, none⟩ = some (.int .i64 d) ∧ w'.cell? ⟨w.heap.size, 2, none⟩ = some (.int .i64 h)
      ∧ w'.cell? ⟨w.heap.size, 3, none⟩ = some (.int .u8 k1) ∧ w'.cell? ⟨w.heap.size, 4, none⟩ = some (.int .i64 i1) ∧ w'.cell? ⟨w.heap.size, 5, none⟩ = some (.float .f64 f1) ∧ w'.cell? ⟨w.heap.size, 6, none⟩ = some (.string s1)
      ∧ w'.cell? ⟨w.heap.size, 7, none⟩ = some (.int .u8 k2) ∧ w'.cell? ⟨w.heap.size, 8, none⟩ = some (.int .i64 i2) ∧ w'.cell? ⟨w.heap.size, 9, none⟩ = some (.float .f64 f2) ∧ w'.cell? ⟨w.heap.size, 10, none⟩ = some (.string s2))
    (simp [go_sem, World.cell?_alloc_past])
    (first
      | (go_at_call_of 19 f1; refine (cval_any k1 i1 f1 s1 a1 b1 _).mono ?_; rintro e w' ⟨rfl, o1, o2, rfl⟩)
      | (go_at_call_of 19 f2; refine (cval_any k2 i2 f2 s2 a2 b2 _).mono ?_; rintro e w' ⟨rfl, o1, o2, rfl⟩))
  go_wp2
  simp [bodyPost, results, Yba.results12, go_sem]
  repeat (first | exact Below.refl _ _ | apply Below.drew | (refine Below.alloc ?_ (by first | (simp; done) | (simp; omega)) _))

section
variable (r d : Int) (k1 i1 : Int) (f1 : Nat) (s1 : ByteArray) (k2 i2 : Int) (f2 : Nat) (s2 : ByteArray) (h : Int)
variable (r' d' : Int) (k1' i1' : Int) (f1' : Nat) (s1' : ByteArray) (k2' i2' : Int) (f2' : Nat) (s2' : ByteArray) (h' : Int) (W : World) (b : Nat)
set_option maxHeartbeats 400000 in
theorem merge_none (hb : b = W.heap.size) :
    Calls Yba.prog 13 #[.pointer (some ⟨b, 0, none⟩), .agg (lumpV 0 d' k1' i1' f1' s1' k2' i2' f2' s2' h')] (W.alloc (.cells (lumpV r d k1 i1 f1 s1 k2 i2 f2 s2 h) 41)) fun e w' =>
      e = .returned (.tuple #[]) ∧ ∃ n c, w' = ((W.alloc (.cells (lumpV r d k1 i1 f1 s1 k2 i2 f2 s2 h) 41)).alloc (.cells c 41)).drewN n := by
  subst hb
  go_enter Yba.func13, Yba.ntmps13
  go_wp2
  first | go_end0 | refine bodyPost_ret (results_none rfl _ _ _) rfl ?_
  exact ⟨rfl, 0, _, rfl⟩
set_option maxHeartbeats 400000 in
theorem merge_into (hb : b = W.heap.size) (hm : (r' == 0) = false) :
    Calls Yba.prog 13 #[.pointer (some ⟨b, 0, none⟩), .agg (lumpV r' d' k1' i1' f1' s1' k2' i2' f2' s2' h')] (W.alloc (.cells (lumpV 0 d k1 i1 f1 s1 k2 i2 f2 s2 h) 41)) fun e w' =>
      e = .returned (.tuple #[]) ∧ ∃ n c, w' = ((W.alloc (.cells (lumpV r' d' k1' i1' f1' s1' k2' i2' f2' s2' h') 41)).alloc (.cells c 41)).drewN n := by
  subst hb
  go_enter Yba.func13, Yba.ntmps13
  go_wp2
  first | go_end0 | refine bodyPost_ret (results_none rfl _ _ _) rfl ?_
  exact ⟨rfl, 0, _, rfl⟩
set_option maxHeartbeats 400000 in
theorem merge_both (hb : b = W.heap.size) (hl : (r == 0) = false) (hm : (r' == 0) = false) :
    Calls Yba.prog 13 #[.pointer (some ⟨b, 0, none⟩), .agg (lumpV r' d' k1' i1' f1' s1' k2' i2' f2' s2' h')] (W.alloc (.cells (lumpV r d k1 i1 f1 s1 k2 i2 f2 s2 h) 41)) fun e w' =>
      e = .returned (.tuple #[]) ∧ ∃ n c, w' = ((W.alloc (.cells (lumpV (wrap64 (r + r')) d k1 i1 f1 s1 k2' i2' f2' s2' h') 41)).alloc (.cells c 41)).drewN n := by
  subst hb
  go_enter Yba.func13, Yba.ntmps13
  go_wp2
  go_region
  go_wp2
  go_region
  first | go_end0 | refine bodyPost_ret (results_none rfl _ _ _) rfl ?_
  exact ⟨rfl, 2, _, rfl⟩
set_option maxHeartbeats 400000 in
theorem cleq_same :
    Calls Yba.prog 14 #[.agg (lumpV r d k1 i1 f1 s1 k2 i2 f2 s2 h), .agg (lumpV r d k1 i1 f1 s1 k2 i2 f2 s2 h)] W fun e w' =>
      e = .returned (.bool true) ∧ Below W.heap.size W w' := by
  go_enter Yba.func14, Yba.ntmps14
  go_wp2_with (first
      | (go_at_call_of 20 f1; refine (cveq_same k1 i1 f1 s1 _).mono ?_; rintro e w' ⟨rfl, n1, rfl⟩)
      | (go_at_call_of 20 f2; refine (cveq_same k2 i2 f2 s2 _).mono ?_; rintro e w' ⟨rfl, n2, rfl⟩))
  go_ret
  refine ⟨rfl, ?_⟩
  repeat (first | exact Below.refl _ _ | apply below_dn | apply Below.drew | (refine Below.alloc ?_ (by first | (simp; done) | (simp; omega)) _))
end
end Go.Proofs.Ybulkalnq
