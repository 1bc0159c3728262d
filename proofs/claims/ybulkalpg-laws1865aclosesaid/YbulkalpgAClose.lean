/-
  THE WALK of LawS1865AClose.
-/
import Derived.Test.YbulkalpgAWalks
import Derived.Laws.CopyOwn
import Derived.Laws.BytesArg
namespace Go.Proofs.Ybulkalpg
open Go.RowKit

set_option maxHeartbeats 400000 in
theorem equal_same (g1 c1 n1 g2 c2 n2 : Nat) (L : List Int) (w : World) (e1 : L.length = n1) (e2 : L.length = n2)
    (h1 : ∀ i, i < n1 → w.cell? ⟨g1, 0 + i, none⟩ = some (.int .u8 (L.getD i 0))) (h2 : ∀ i, i < n2 → w.cell? ⟨g2, 0 + i, none⟩ = some (.int .u8 (L.getD i 0))) :
    Calls Yba.prog 7 #[.slice (some ⟨g1, 0, none⟩) n1 c1, .slice (some ⟨g2, 0, none⟩) n2 c2] w fun e w' => e = .returned (.bool true) ∧ w' = w := by
  have r1 := run_convert_bytes_arg (P := Yba.prog) w 22 5 Yba.underlying22 Yba.underlying5 g1 0 n1 c1 L e1 h1 9 Yba.underlying9
  have r2 := run_convert_bytes_arg (P := Yba.prog) w 22 5 Yba.underlying22 Yba.underlying5 g2 0 n2 c2 L e2 h2 9 Yba.underlying9
  clear h1 h2 e1 e2
  generalize strOfNums L = S at r1 r2
  go_enter Yba.func7, Yba.ntmps7
  go_wp2
  go_ret
  exact ⟨rfl, rfl⟩

/-- An owned row of bytes, cell by cell. -/
theorem own_cells {w : World} {base g n cap : Nat} {L : List Int} (h : w.ownsRow base 5 1 (.slice (some ⟨g, 0, none⟩) n cap) n (bytes L)) : L.length = n ∧ ∀ i, i < n → w.cell? ⟨g, 0 + i, none⟩ = some (.int .u8 (L.getD i 0)) := by
  have hl : L.length = n := by have := h.1; simp [bytes] at this; omega
  refine ⟨hl, fun i hi => ?_⟩
  rw [Nat.zero_add, h.cellAt i (by omega)]
  simp [bytes, List.getElem?_eq_getElem (show i < L.length by omega), List.getD]

theorem splice_all (cur cs : List Value) (h : cs.length = cur.length) : splice cur 0 cs = cs := by
  simp [splice, h]

/-- The block that 'make([]byte, n)' has laid. -/
theorem made_block {w : World} {base g n : Nat} {xs : List Value} (h : w.ownsRow base 5 1 (.slice (some ⟨g, 0, none⟩) n n) n xs) : ∃ cur : List Value, w.heap[g]? = some (.cells cur.toArray 5 (0, 0)) ∧ cur.length = n := by
  rcases h.2 with ⟨hv, _⟩ | ⟨g', cap, cur, hv, _, hh, _, _, hs, _⟩
  · simp at hv
  · simp only [Value.slice.injEq, Option.some.injEq, Addr.mk.injEq] at hv
    obtain ⟨⟨rfl, _⟩, _, rfl⟩ := hv
    exact ⟨cur.toList, by simpa using hh, by simpa using hs⟩

/-- The encoder as the law lays it. -/
theorem enc_start {B len : Nat} {w2 : World} {L : List Int} (hL : L.length = len) (hlen : len ≤ 1024) (hB : B < w2.heap.size) (h : w2.heap[B]? = some (.cells (bytes L).toArray 5 (0, 0))) :
    Enc B w2.heap.size (w2.alloc (.cells (encCells (.slice (some ⟨B, 0, none⟩) len len)) 30)) B len len L := by
  refine ⟨heap_alloc_new _ _, World.ownsRow.alloc ⟨by simp [bytes, hL], .inr ⟨B, len, _, rfl, Nat.le_refl _, h, Nat.le_refl _, by unfold maxLen; omega, by simp [bytes, hL], by simp; exact List.take_of_length_le (by simp [bytes, hL])⟩⟩ _, by omega⟩

/-- The encoder stays what it is under writes at and above B'. -/
theorem Enc.stays {B Be B' : Nat} {w w' : World} {g cap n : Nat} {l : List Int} (h : Enc B Be w g cap n l) (hb : Below B' w w') (hB : w.heap.size ≤ B') : Enc B Be w' g cap n l := by
  have hr := h.row
  have hl := h.lt
  refine ⟨(hb.block Be (by omega)).trans h.box, ?_, h.lo⟩
  refine ⟨h.own.1, ?_⟩
  rcases h.own.2 with h' | ⟨g', cap', cur, hv, hg, hh, r⟩
  · exact .inl h'
  · refine .inr ⟨g', cap', cur, hv, hg, ?_, r⟩
    simp only [Value.slice.injEq, Option.some.injEq, Addr.mk.injEq] at hv
    obtain ⟨⟨rfl, _⟩, _⟩ := hv
    rw [hb.block g (by omega)]
    exact hh

set_option maxRecDepth 100000 in
set_option maxHeartbeats 2000000 in
theorem close_core (ao : Option Addr) (len cap : Nat) (L : List Int) (n d : Int) (w : World) (hL : L.length = len) (h1 : len ≤ 1024) (h2 : d ≤ 1024) (hnone : ao = none → len = 0 ∧ cap = 0)
    (hcells : ∀ ad, ao = some ad → ∀ j u, (bytes L)[j]? = some u → w.cell? (ad.add j) = some u) :
    Calls Yba.prog 3 #[.slice ao len cap, .int .i64 n, .int .i64 d] w fun e w' => e = .returned (.bool true) ∧ Below w.heap.size w w' := by
  obtain ⟨i0, hi, hz0, hz1, hz2⟩ := info_parts info5
  have HL : Hid (L.length = len) := hL
  have HN : Hid (ao = none → len = 0 ∧ cap = 0) := hnone
  have HC : Hid (∀ ad, ao = some ad → ∀ j u, (bytes L)[j]? = some u → w.cell? (ad.add j) = some u) := hcells
  clear hL hnone hcells
  have g1 : ¬ (1024 : Int) < (len : Int) := by omega
  have g2 : ¬ (1024 : Int) < d := by omega
  go_enter Yba.func3, Yba.ntmps3
  go_wp2_with (at_make; refine wpList_make_full _ rfl _ _ 22 rfl w.heap.size 5 i0 (.int .u8 0) 1 Yba.underlying22 hi hz0 hz1 .i64 .i64 _ _ len rfl rfl rfl rfl (by rw [hz2]; omega) (by unfold maxLen; omega) (Nat.le_refl _) ?_)
  intro w1 own1 gr1
  obtain ⟨cur, hcur, hlen⟩ := made_block own1
  have hb1 : Below w.heap.size w w1 := (Below.refl _ _).grown gr1 (Nat.le_refl _) (by simp)
  have HCu := hid hcur
  have HLe := hid hlen
  have HB1 := hid hb1
  clear own1 gr1 hcur hlen hb1
  go_wp2_with (refine wpList_copy_splice rfl (.tmp 21) (.tmp 22) 22 22 rfl 5 Yba.underlying22 (by rw [hi]; simp [hz1]) _ _ len len len cap rfl rfl w.heap.size 0 cur 5 HCu.out (bytes L) ?c1 ?c2 ?c3 (bytes_one L) w.heap.size w HB1.out (Nat.le_refl _) ?_)
  case c1 => rw [bytes_length, HL.out]; simp
  case c2 =>
    intro hp
    rw [bytes_length, HL.out] at hp
    have hex : ∃ ad, ao = some ad ∧ ∀ j u, (bytes L)[j]? = some u → w1.cell? (ad.add j) = some u := by
      cases ao with
      | none => have := HN.out rfl; omega
      | some ad =>
        refine ⟨ad, rfl, fun j u hj => ?_⟩
        have hc := HC.out ad rfl j u hj
        rw [HB1.out.cell (p := ad.add j) (World.block_lt_of_cell? w _ hc)]
        exact hc
    first | exact hex | exact ⟨rfl, hex⟩
  case c3 => rw [bytes_length, HL.out, HLe.out]; try simp
  intro w2 hrow hb2
  have hrow2 := hrow.out
  rw [splice_all _ _ (by rw [bytes_length, HL.out, HLe.out])] at hrow2
  have hE := enc_start HL.out h1 (lt_of_block hrow2) hrow2
  have hB2 : w.heap.size < w2.heap.size := lt_of_block hrow2
  have HE := hid hE
  have HB2 := hid hb2
  clear hrow hb2 hrow2 hE HB1 HCu HLe
  go_wp2_with fail
  refine (close_any w.heap.size w2.heap.size w.heap.size len len L n d _ HE.out h2 (by omega)).mono ?_
  rintro e w3 ⟨rfl, hb3, g3, cap3, n3, hE3⟩
  have hB3 : Below w.heap.size w w3 := (HB2.out.alloc (by omega) _).trans hb3
  have hz3 := hE3.lt
  have HE3 := hid hE3
  have HB3 := hid hB3
  clear hE3 hb3 hB3 HE HB2
  have HNW : Hid (∃ Bw, Bw = w3.heap.size) := ⟨_, rfl⟩
  go_wp2_with (at_make; refine wpList_make_own _ rfl _ _ 22 rfl w3.heap.size 5 i0 (.int .u8 0) 1 Yba.underlying22 hi hz0 hz1 .i64 .i64 _ (len + 2050) rfl rfl (by omega) (by rw [hz2]; omega) (by unfold maxLen; omega) (Nat.le_refl _) ?_)
  intro w4 own4 gr4
  have hb4 : Below w3.heap.size w3 w4 := (Below.refl _ _).grown gr4 (Nat.le_refl _) (by simp)
  have HO4 := hid own4
  have HB4 := hid hb4
  clear own4 gr4 hb4
  go_wp2_with (at_builtin; refine wpList_append_fits_any _ rfl _ _ 22 rfl w3.heap.size 5 i0 1 Yba.underlying22 hi hz1 w3.heap.size 0 (len + 2050) [] rfl HO4.out ao len cap (bytes L) rfl ?c4 HN.out ?c5 (bytes_one L) (by omega) ?_)
  case c4 => rw [bytes_length, HL.out]; try simp
  case c5 =>
    intro ad had j u hj
    have hc := HC.out ad had j u hj
    have hlt := World.block_lt_of_cell? w _ hc
    rw [HB4.out.cell (p := ad.add j) (by have := HB3.out.size; omega), HB3.out.cell (p := ad.add j) hlt]
    exact hc
  intro w5 own5 gr5
  have hb5 : Below w3.heap.size w3 w5 := HB4.out.grown gr5 HB4.out.size (by intro k hk; simp at hk; omega)
  try simp only [Nat.zero_add, List.nil_append] at own5
  have HO5 := hid own5
  have HB5 := hid hb5
  clear own5 gr5 hb5 HO4 HB4 HNW
  by_cases hn : 0 < n
  · have HCl : Hid (closing n d = indent d.toNat ++ [93]) := by show _ = _; simp [closing, hn]
    go_wp2_with (at_builtin; refine wpList_append_fits _ rfl _ _ 22 rfl w3.heap.size 5 i0 1 Yba.underlying22 hi hz1 w3.heap.size len (len + 2050) (bytes L) rfl (HO5.out.alloc _) ⟨w5.heap.size, 0, none⟩ 1 1 [.int .u8 10] rfl rfl ?d1 ?d2 (by omega) ?_)
    case d1 => exact cell_one_new _ _ _
    case d2 => intro u hu; simp at hu; subst hu; rfl
    intro w6 own6 gr6
    have hb6 : Below w3.heap.size w3 w6 := (HB5.out.alloc HB5.out.size _).grown gr6 (by have := HB5.out.size; simp; omega) (by intro k hk; simp at hk; omega)
    have HO6 : Hid (w6.ownsRow w3.heap.size 5 1 (.slice (some ⟨w3.heap.size, 0, none⟩) (len + 1) (len + 2050)) (len + 1) (bytes (L ++ indent 0))) := by
      show World.ownsRow _ _ _ _ _ _ _
      rw [bytes_append]
      exact own6
    have HB6 := hid hb6
    clear own6 gr6 hb6 HO5 HB5
    go_wp2
    go_loopw [9, 10] (fun v i wr => ∃ k : Nat, k ≤ d.toNat ∧ i = .int .i64 k ∧ v = .slice (some ⟨w3.heap.size, 0, none⟩) (len + 1 + 2 * k) (len + 2050) ∧ Hid (wr.ownsRow w3.heap.size 5 1 (.slice (some ⟨w3.heap.size, 0, none⟩) (len + 1 + 2 * k) (len + 2050)) (len + 1 + 2 * k) (bytes (L ++ indent k))) ∧ Hid (Below w3.heap.size w3 wr)) (fun _ i _ => d.toNat - (intOf i).toNat)
    case atStart => exact ⟨0, Nat.zero_le _, rfl, rfl, HO6, HB6⟩
    case round =>
      obtain ⟨k, hk, rfl, rfl, HO7, HB7⟩ := hrel
      clear HO6 HB6
      by_cases hlt : (k : Int) < d
      · go_wp2_with (at_builtin; refine wpList_append_fits _ rfl _ _ 22 rfl w3.heap.size 5 i0 1 Yba.underlying22 hi hz1 w3.heap.size (len + 1 + 2 * k) (len + 2050) _ rfl (HO7.out.alloc _) ⟨wr.heap.size, 0, none⟩ 2 2 [.int .u8 32, .int .u8 32] rfl rfl ?d3 ?d4 (by omega) ?_)
        case d3 => exact cell_two_new _ _ _ _
        case d4 => intro u hu; simp at hu; subst hu; rfl
        intro w8 own8 gr8
        have hb8 : Below w3.heap.size w3 w8 := (HB7.out.alloc HB7.out.size _).grown gr8 (by have := HB7.out.size; simp; omega) (by intro k hk; simp at hk; omega)
        have HO8 : Hid (w8.ownsRow w3.heap.size 5 1 (.slice (some ⟨w3.heap.size, 0, none⟩) (len + 1 + 2 * (k + 1)) (len + 2050)) (len + 1 + 2 * (k + 1)) (bytes (L ++ indent (k + 1)))) := by
          show World.ownsRow _ _ _ _ _ _ _
          rw [indent_succ, ← List.append_assoc, bytes_append]
          exact own8
        have HB8 := hid hb8
        clear own8 gr8 hb8 HO7 HB7
        go_wp2
        go_roundw
        case rel => exact ⟨k + 1, by omega, by go_num, by congr 1, HO8, HB8⟩
        case measure => simp [intOf]; omega
      · have HK : Hid (k = d.toNat) := show _ = _ by omega
        go_wp2_with (at_builtin; refine wpList_append_fits _ rfl _ _ 22 rfl w3.heap.size 5 i0 1 Yba.underlying22 hi hz1 w3.heap.size (len + 1 + 2 * k) (len + 2050) _ rfl (HO7.out.alloc _) ⟨wr.heap.size, 0, none⟩ 1 1 [.int .u8 93] rfl rfl ?e1 ?e2 (by omega) ?_)
        case e2 => first | rfl | (intro u hu; simp at hu; subst hu; rfl)
        intro w9 own9 gr9
        have hb9 : Below w3.heap.size w3 w9 := (HB7.out.alloc HB7.out.size _).grown gr9 (by have := HB7.out.size; simp; omega) (by intro k hk; simp at hk; omega)
        have own9' : w9.ownsRow w3.heap.size 5 1 (.slice (some ⟨w3.heap.size, 0, none⟩) (len + 1 + 2 * k + 1) (len + 2050)) (len + 1 + 2 * k + 1) (bytes (L ++ closing n d)) := by
          rw [HCl.out, ← HK.out, ← List.append_assoc, bytes_append]
          exact own9
        have E9 := HE3.out.stays hb9 (Nat.le_refl _)
        obtain ⟨q0, q1, q2, q3, q4, -⟩ := E9.cells
        have HX := hid (own_cells E9.own)
        have HY := hid (own_cells own9')
        have HB9 := hid (HB3.out.trans (hb9.mono (B' := w.heap.size) (by omega)))
        clear own9 gr9 hb9 own9' E9 HO7 HB7 HCl
        go_wp2_with (go_at_call 7; refine (equal_same _ _ _ _ _ _ (L ++ closing n d) _ HX.out.1 HY.out.1 HX.out.2 HY.out.2).mono ?_; rintro e w' ⟨rfl, rfl⟩)
        go_ret
        exact ⟨rfl, HB9.out⟩
  · have HCl : Hid (closing n d = [93]) := by show _ = _; simp [closing, hn]
    go_wp2_with (at_builtin; refine wpList_append_fits _ rfl _ _ 22 rfl w3.heap.size 5 i0 1 Yba.underlying22 hi hz1 w3.heap.size len (len + 2050) (bytes L) rfl (HO5.out.alloc _) ⟨w5.heap.size, 0, none⟩ 1 1 [.int .u8 93] rfl rfl ?f1 ?f2 (by omega) ?_)
    case f2 => first | rfl | (intro u hu; simp at hu; subst hu; rfl)
    intro w9 own9 gr9
    have hb9 : Below w3.heap.size w3 w9 := (HB5.out.alloc HB5.out.size _).grown gr9 (by have := HB5.out.size; simp; omega) (by intro k hk; simp at hk; omega)
    have own9' : w9.ownsRow w3.heap.size 5 1 (.slice (some ⟨w3.heap.size, 0, none⟩) (len + 1) (len + 2050)) (len + 1) (bytes (L ++ closing n d)) := by
      rw [HCl.out, bytes_append]
      exact own9
    have E9 := HE3.out.stays hb9 (Nat.le_refl _)
    obtain ⟨q0, q1, q2, q3, q4, -⟩ := E9.cells
    have HX := hid (own_cells E9.own)
    have HY := hid (own_cells own9')
    have HB9 := hid (HB3.out.trans (hb9.mono (B' := w.heap.size) (by omega)))
    clear own9 gr9 hb9 own9' E9 HO5 HB5 HCl
    go_wp2_with (go_at_call 7; refine (equal_same _ _ _ _ _ _ (L ++ closing n d) _ HX.out.1 HY.out.1 HX.out.2 HY.out.2).mono ?_; rintro e w' ⟨rfl, rfl⟩)
    go_ret
    exact ⟨rfl, HB9.out⟩
end Go.Proofs.Ybulkalpg
