/-
  WHAT THE ENCODER's MEMORY IS, AND WHAT AN APPEND TO ITS BUFFER MAKES OF IT: no walk.
-/
import Derived.Test.YbulkalpgRows
import Derived.WalkKit
import Derived.WalkSpells
namespace Go.Proofs.Ybulkalpg
open Go.RowKit

/-- The encoder's five cells. -/
abbrev encCells (v : Value) : Array Value := #[v, .nilIface, .int .i64 7, .nilIface, .pointer none]
/-- Bytes, as cells. -/
def bytes (l : List Int) : List Value := l.map (Value.int .u8)
theorem bytes_length (l : List Int) : (bytes l).length = l.length := by simp [bytes]
theorem bytes_append (l m : List Int) : bytes (l ++ m) = bytes l ++ bytes m := by simp [bytes]
theorem bytes_one (l : List Int) : ∀ u ∈ bytes l, u.oneCell' = true := by
  intro u hu
  simp only [bytes, List.mem_map] at hu
  obtain ⟨n, _, rfl⟩ := hu
  rfl

/-- The encoder lies in block Be; its buffer, at the head of block g, holds the bytes l. -/
structure Enc (B Be : Nat) (w : World) (g cap n : Nat) (l : List Int) : Prop where
  box : w.heap[Be]? = some (.cells (encCells (.slice (some ⟨g, 0, none⟩) n cap)) 30 (0, 0))
  own : w.ownsRow B 5 1 (.slice (some ⟨g, 0, none⟩) n cap) n (bytes l)
  lo : B ≤ Be

theorem Enc.ne {B Be : Nat} {w : World} {g cap n : Nat} {l : List Int} (h : Enc B Be w g cap n l) : g ≠ Be := by
  intro e
  subst e
  rcases h.own.2 with ⟨hv, _⟩ | ⟨g', cap', cur, hv, _, hh, _⟩
  · simp at hv
  · simp only [Value.slice.injEq, Option.some.injEq, Addr.mk.injEq] at hv
    obtain ⟨⟨rfl, _⟩, _⟩ := hv
    have hb := h.box
    rw [hh] at hb
    simp at hb
theorem Enc.len {B Be : Nat} {w : World} {g cap n : Nat} {l : List Int} (h : Enc B Be w g cap n l) : n = l.length := by have := h.own.1; simp [bytes] at this; omega
theorem Enc.lt {B Be : Nat} {w : World} {g cap n : Nat} {l : List Int} (h : Enc B Be w g cap n l) : Be < w.heap.size := lt_of_block h.box
theorem Enc.row {B Be : Nat} {w : World} {g cap n : Nat} {l : List Int} (h : Enc B Be w g cap n l) : B ≤ g ∧ g < w.heap.size := h.own.lt g rfl

theorem Enc.cells {B Be : Nat} {w : World} {g cap n : Nat} {l : List Int} (h : Enc B Be w g cap n l) :
    w.cell? ⟨Be, 0, none⟩ = some (.slice (some ⟨g, 0, none⟩) n cap) ∧ w.cell? ⟨Be, 1, none⟩ = some .nilIface ∧ w.cell? ⟨Be, 2, none⟩ = some (.int .i64 7) ∧ w.cell? ⟨Be, 3, none⟩ = some .nilIface ∧ w.cell? ⟨Be, 4, none⟩ = some (.pointer none) ∧ w.frozen? ⟨Be, 0, none⟩ = false := by
  have hb := h.box
  refine ⟨?_, ?_, ?_, ?_, ?_, ?_⟩ <;> simp [World.cell?, World.frozen?, hb]

theorem box_setCell {w : World} {b : Nat} {v u : Value} (h : w.heap[b]? = some (.cells (encCells v) 30 (0, 0))) : (w.setCell ⟨b, 0, none⟩ u).heap[b]? = some (.cells (encCells u) 30 (0, 0)) := by
  have hlt := lt_of_block h
  have h' : w.heap[b] = .cells (encCells v) 30 (0, 0) := by simpa [Array.getElem?_eq_getElem hlt] using h
  show (w.heap.modify b _)[b]? = _
  rw [Array.getElem?_eq_getElem (by simpa using hlt), Array.getElem_modify_self, h']
  rfl

/-- What 'e.buf = append(e.buf, news...)' makes of it: v', w1: what the append leaves. -/
theorem Enc.push {B Be : Nat} {w w1 : World} {g cap n m : Nat} {l news : List Int} {o : Obj} {v' : Value} (h : Enc B Be w g cap n l) (hn : 0 < m)
    (hown : w1.ownsRow B 5 1 v' (n + m) (bytes l ++ bytes news)) (hgrow : (w.alloc o).grownBy w1 (some g)) :
    ∃ g' cap', v' = .slice (some ⟨g', 0, none⟩) (n + m) cap' ∧ w1.cell? ⟨Be, 0, none⟩ = some (.slice (some ⟨g, 0, none⟩) n cap) ∧ w1.frozen? ⟨Be, 0, none⟩ = false
      ∧ Enc B Be (w1.setCell ⟨Be, 0, none⟩ (.slice (some ⟨g', 0, none⟩) (n + m) cap')) g' cap' (n + m) (l ++ news) ∧ Below B w (w1.setCell ⟨Be, 0, none⟩ (.slice (some ⟨g', 0, none⟩) (n + m) cap')) := by
  have hlt := h.lt
  have hrow := h.row
  have hbox : w1.heap[Be]? = some (.cells (encCells (.slice (some ⟨g, 0, none⟩) n cap)) 30 (0, 0)) := by
    rw [hgrow.block Be (by simp; omega) (by simpa using fun e => h.ne e.symm), Below.heap_alloc _ _ _ hlt, h.box]
  obtain ⟨g', cap', cur, hv, hg', hh, hr⟩ : ∃ g' cap' cur, v' = .slice (some ⟨g', 0, none⟩) (n + m) cap' ∧ B ≤ g' ∧ w1.heap[g']? = some (.cells cur 5 (0, 0)) ∧ True := by
    rcases hown.2 with ⟨_, h0⟩ | ⟨g', cap', cur, hv, hg', hh, _⟩
    · omega
    · exact ⟨g', cap', cur, hv, hg', hh, trivial⟩
  subst hv
  have hne : g' ≠ Be := by
    intro e
    subst e
    rw [hh] at hbox
    simp at hbox
  refine ⟨g', cap', rfl, by simp [World.cell?, hbox], by simp [World.frozen?, hbox], ⟨?_, ?_, h.lo⟩, ?_⟩
  · exact box_setCell (u := .slice (some ⟨g', 0, none⟩) (n + m) cap') hbox
  · rw [bytes_append]
    exact ownsRow_setCell_other hown (by simpa [Value.ownBlock] using hne) _
  · refine Below.setCell ?_ h.lo _
    exact ((Below.refl B w).alloc (by omega) o).grown hgrow (by simp; omega) (by intro k hk; simp at hk; omega)
end Go.Proofs.Ybulkalpg
