/-
  WHAT LIES IN MEMORY while LawS1871AAddFind runs: no walk.
-/
import Derived.Test.YbulkalsmAFind
namespace Go.Proofs.Ybulkalsm
open Go.RowKit Tab
set_option linter.unusedVariables false

theorem hid {p : Prop} (h : p) : Hid p := h
theorem below_dn {B n : Nat} {a w : World} (h : Below B a w) : Below B a (w.drewN n) := ⟨h.os, h.tape, h.output, h.size, h.block⟩

/-- The law's five blocks: the argument's variable, the table, the three captured variables. -/
structure St (B : Nat) (w0 w : World) (hsv sv : Value) (k m i : Nat) : Prop where
  hs : w.heap[B]? = some (.cells #[hsv] 22 (0, 0))
  tab : w.heap[B + 1]? = some (.cells #[sv, .int .i64 k] 26 (0, 0))
  calls : w.heap[B + 2]? = some (.cells #[.int .i64 m] 3 (0, 0))
  bad : w.heap[B + 3]? = some (.cells #[.bool false] 4 (0, 0))
  cur : w.heap[B + 4]? = some (.cells #[.int .i32 i] 21 (0, 0))
  below : Below B w0 w
/-- A row of slots. -/
def Row (w : World) (g : Nat) (T : List Int) : Prop := w.heap[g]? = some (.cells (cellsOf T) 21 (0, 0))

theorem setCell_self {w : World} {g i : Nat} {cs : Array Value} {t : TypeId} (h : w.heap[g]? = some (.cells cs t (0, 0))) (v : Value) : (w.setCell ⟨g, i, none⟩ v).heap[g]? = some (.cells (cs.setIfInBounds i v) t (0, 0)) := by
  rw [setCell_eq_setRow w g i cs t (0, 0) v h]
  exact setRow_heap w g _ _ t _ h

section
variable {B : Nat} {w0 w : World} {hsv sv : Value} {k m i : Nat}
theorem St.cells (h : St B w0 w hsv sv k m i) :
    w.cell? ⟨B, 0, none⟩ = some hsv ∧ w.cell? ⟨B + 1, 0, none⟩ = some sv ∧ w.cell? ⟨B + 1, 1, none⟩ = some (.int .i64 k) ∧ w.cell? ⟨B + 2, 0, none⟩ = some (.int .i64 m) ∧ w.cell? ⟨B + 3, 0, none⟩ = some (.bool false) ∧ w.cell? ⟨B + 4, 0, none⟩ = some (.int .i32 i) := by
  refine ⟨?_, ?_, ?_, ?_, ?_, ?_⟩
  · simp [World.cell?, h.hs]
  · simp [World.cell?, h.tab]
  · simp [World.cell?, h.tab]
  · simp [World.cell?, h.calls]
  · simp [World.cell?, h.bad]
  · simp [World.cell?, h.cur]
theorem St.free (h : St B w0 w hsv sv k m i) : w.frozen? ⟨B + 1, 0, none⟩ = false ∧ w.frozen? ⟨B + 1, 1, none⟩ = false ∧ w.frozen? ⟨B + 2, 0, none⟩ = false ∧ w.frozen? ⟨B + 4, 0, none⟩ = false := by
  refine ⟨?_, ?_, ?_, ?_⟩
  · simp [World.frozen?, h.tab]
  · simp [World.frozen?, h.tab]
  · simp [World.frozen?, h.calls]
  · simp [World.frozen?, h.cur]
theorem St.lt (h : St B w0 w hsv sv k m i) : B + 4 < w.heap.size := lt_of_block h.cur
theorem St.drew (h : St B w0 w hsv sv k m i) (n : Nat) : St B w0 (w.drewN n) hsv sv k m i := ⟨h.hs, h.tab, h.calls, h.bad, h.cur, below_dn h.below⟩
theorem St.alloc (h : St B w0 w hsv sv k m i) (o : Obj) : St B w0 (w.alloc o) hsv sv k m i := by
  have hl := h.lt
  refine ⟨?_, ?_, ?_, ?_, ?_, h.below.alloc (by omega) o⟩
  · rw [Below.heap_alloc _ _ _ (by omega)]; exact h.hs
  · rw [Below.heap_alloc _ _ _ (by omega)]; exact h.tab
  · rw [Below.heap_alloc _ _ _ (by omega)]; exact h.calls
  · rw [Below.heap_alloc _ _ _ (by omega)]; exact h.bad
  · rw [Below.heap_alloc _ _ _ (by omega)]; exact h.cur
theorem St.set_far (h : St B w0 w hsv sv k m i) {g p : Nat} (hg : B + 5 ≤ g) (v : Value) : St B w0 (w.setCell ⟨g, p, none⟩ v) hsv sv k m i := by
  have ne : ∀ q, q ≤ B + 4 → (w.setCell ⟨g, p, none⟩ v).heap[q]? = w.heap[q]? := fun q hq => Below.heap_setCell _ _ _ _ (by show q ≠ g; omega)
  exact ⟨(ne _ (by omega)).trans h.hs, (ne _ (by omega)).trans h.tab, (ne _ (by omega)).trans h.calls, (ne _ (by omega)).trans h.bad, (ne _ (by omega)).trans h.cur, h.below.setCell (by show B ≤ g; omega) v⟩
theorem St.set_len (h : St B w0 w hsv sv k m i) (k' : Nat) : St B w0 (w.setCell ⟨B + 1, 1, none⟩ (.int .i64 k')) hsv sv k' m i := by
  have ne : ∀ q, q ≠ B + 1 → (w.setCell ⟨B + 1, 1, none⟩ (.int .i64 k')).heap[q]? = w.heap[q]? := fun q hq => Below.heap_setCell _ _ _ _ hq
  exact ⟨(ne _ (by omega)).trans h.hs, setCell_self h.tab _, (ne _ (by omega)).trans h.calls, (ne _ (by omega)).trans h.bad, (ne _ (by omega)).trans h.cur, h.below.setCell (by show B ≤ B + 1; omega) _⟩
theorem St.set_slots (h : St B w0 w hsv sv k m i) (sv' : Value) : St B w0 (w.setCell ⟨B + 1, 0, none⟩ sv') hsv sv' k m i := by
  have ne : ∀ q, q ≠ B + 1 → (w.setCell ⟨B + 1, 0, none⟩ sv').heap[q]? = w.heap[q]? := fun q hq => Below.heap_setCell _ _ _ _ hq
  exact ⟨(ne _ (by omega)).trans h.hs, setCell_self h.tab _, (ne _ (by omega)).trans h.calls, (ne _ (by omega)).trans h.bad, (ne _ (by omega)).trans h.cur, h.below.setCell (by show B ≤ B + 1; omega) _⟩
theorem St.set_calls (h : St B w0 w hsv sv k m i) (m' : Nat) : St B w0 (w.setCell ⟨B + 2, 0, none⟩ (.int .i64 m')) hsv sv k m' i := by
  have ne : ∀ q, q ≠ B + 2 → (w.setCell ⟨B + 2, 0, none⟩ (.int .i64 m')).heap[q]? = w.heap[q]? := fun q hq => Below.heap_setCell _ _ _ _ hq
  exact ⟨(ne _ (by omega)).trans h.hs, (ne _ (by omega)).trans h.tab, setCell_self h.calls _, (ne _ (by omega)).trans h.bad, (ne _ (by omega)).trans h.cur, h.below.setCell (by show B ≤ B + 2; omega) _⟩
theorem St.set_cur (h : St B w0 w hsv sv k m i) (i' : Nat) : St B w0 (w.setCell ⟨B + 4, 0, none⟩ (.int .i32 i')) hsv sv k m i' := by
  have ne : ∀ q, q ≠ B + 4 → (w.setCell ⟨B + 4, 0, none⟩ (.int .i32 i')).heap[q]? = w.heap[q]? := fun q hq => Below.heap_setCell _ _ _ _ hq
  exact ⟨(ne _ (by omega)).trans h.hs, (ne _ (by omega)).trans h.tab, (ne _ (by omega)).trans h.calls, (ne _ (by omega)).trans h.bad, setCell_self h.cur _, h.below.setCell (by show B ≤ B + 4; omega) _⟩
end

theorem Row.drew {w : World} {g : Nat} {T : List Int} (h : Row w g T) (n : Nat) : Row (w.drewN n) g T := h
theorem Row.lt {w : World} {g : Nat} {T : List Int} (h : Row w g T) : g < w.heap.size := lt_of_block h
theorem Row.alloc {w : World} {g : Nat} {T : List Int} (h : Row w g T) (o : Obj) : Row (w.alloc o) g T := by
  unfold Row
  rw [Below.heap_alloc _ _ _ h.lt]; exact h
theorem Row.set_other {w : World} {g : Nat} {T : List Int} (h : Row w g T) {a : Addr} (ha : g ≠ a.block) (v : Value) : Row (w.setCell a v) g T := by
  unfold Row
  rw [Below.heap_setCell _ _ _ _ ha]; exact h
theorem Row.set_self {w : World} {g : Nat} {T : List Int} (h : Row w g T) (p : Nat) (v : Int) : Row (w.setCell ⟨g, p, none⟩ (.int .i32 v)) g (T.set p v) := by
  unfold Row
  rw [setCell_self h]
  unfold cellsOf
  rw [List.setIfInBounds_toArray, List.map_set]

theorem St.grown {B : Nat} {w0 w w1 : World} {hsv sv : Value} {k m i : Nat} (h : St B w0 w hsv sv k m i) (hg : w.grownBy w1 none) : St B w0 w1 hsv sv k m i := by
  have hl := h.lt
  have ne : ∀ q, q ≤ B + 4 → w1.heap[q]? = w.heap[q]? := fun q hq => hg.block q (by omega) (by simp)
  exact ⟨(ne _ (by omega)).trans h.hs, (ne _ (by omega)).trans h.tab, (ne _ (by omega)).trans h.calls, (ne _ (by omega)).trans h.bad, (ne _ (by omega)).trans h.cur, h.below.grown hg (by omega) (by simp)⟩
theorem Row.grown {w w1 : World} {g : Nat} {T : List Int} (h : Row w g T) (hg : w.grownBy w1 none) : Row w1 g T := (hg.block g h.lt (by simp)).trans h

/-- The table, whatever it holds by now: k numbers, c slots. -/
def Tbl (H : Nat → Nat) (B : Nat) (w0 w : World) (hsv : Value) (k m i c : Nat) : Prop :=
  ∃ (ao : Option Addr) (T : List Int), St B w0 w hsv (.slice ao c c) k m i ∧ Full H T k ∧ T.length = c ∧ 2 * k ≤ c ∧ c ≤ 4096 ∧
    (c = 0 ∧ ao = none ∨ ∃ g e, ao = some ⟨g, 0, none⟩ ∧ B + 5 ≤ g ∧ Row w g T ∧ c = 2 ^ e ∧ 16 ≤ c)
/-- How many slots there are when number k has been added. -/
def capN (c k : Nat) : Nat := if c < 2 * (k + 1) then max 16 (2 * c) else c
end Go.Proofs.Ybulkalsm
