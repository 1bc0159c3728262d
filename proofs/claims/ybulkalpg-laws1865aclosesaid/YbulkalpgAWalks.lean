/-
  THE WALKS of (*encoder).newline and (*encoder).closeArray over an encoder that the call itself made.
-/
import Derived.Test.YbulkalpgParts
import Derived.WalkLawsBesides
namespace Go.Proofs.Ybulkalpg
open Go.RowKit

theorem info5 : (Yba.prog.info? 5).map (fun i => (i.zero, i.size, i.bytes)) = some (some (.int .u8 0), 1, 1) := by kernel_rfl

theorem hid {p : Prop} (h : p) : Hid p := h

/-- What newline writes at depth d. -/
def indent (k : Nat) : List Int := 10 :: List.replicate (2 * k) 32
theorem indent_succ (k : Nat) : indent (k + 1) = indent k ++ [32, 32] := by
  unfold indent
  rw [show 2 * (k + 1) = 2 * k + 1 + 1 by omega, List.replicate_succ', List.replicate_succ']
  simp
theorem indent_length (k : Nat) : (indent k).length = 2 * k + 1 := by simp [indent]

set_option maxHeartbeats 1000000 in
theorem newline_any (B Be g cap n : Nat) (l : List Int) (d : Int) (w : World) (hE : Enc B Be w g cap n l) (hd : d ≤ 1024) (hl : n ≤ 4096) :
    Calls Yba.prog 11 #[.pointer (some ⟨Be, 0, none⟩), .int .i64 d] w fun e w' => e = .returned (.tuple #[]) ∧ Below B w w' ∧ ∃ g' cap' n', Enc B Be w' g' cap' n' (l ++ indent d.toNat) := by
  obtain ⟨i0, hi, hz0, hz1, hz2⟩ := info_parts info5
  have hrow := hE.row
  obtain ⟨c0, -, -, -, -, f0⟩ := hE.cells
  have hnl := hE.len
  have HN : Hid (n = l.length) := hnl
  have HE : Hid (Enc B Be w g cap n l) := hE
  clear hE hnl
  go_enter Yba.func11, Yba.ntmps11
  go_wp2_with (at_builtin; refine wpList_append_own _ rfl _ _ 22 rfl B 5 i0 (.int .u8 0) 1 1 Yba.underlying22 hi hz0 hz1 hz2 rfl (by decide) _ _ _ rfl (HE.out.own.alloc _) ⟨w.heap.size, 0, none⟩ 1 1 [.int .u8 10] rfl rfl ?c1 ?c2 ?c3 ?c4 ?c5 ?_)
  case c1 => exact cell_one_new _ _ _
  case c2 => intro u hu; simp at hu; subst hu; rfl
  case c3 => unfold maxLen; omega
  case c4 => omega
  case c5 => simp; omega
  intro v' w1 hown hgrow _
  obtain ⟨g1, cap1, hv, k0, k1, hE1, hb1⟩ := HE.out.push (news := [10]) (by simp) hown hgrow
  rw [hv]
  clear hv hown hgrow c0 f0 HE
  have HE1 := hid hE1
  have HB1 := hid hb1
  clear hE1 hb1
  go_wp2
  go_loopw [14] (fun i wr => ∃ k g2 cap2 n2 : Nat, k ≤ d.toNat ∧ i = .int .i64 k ∧ Hid (Enc B Be wr g2 cap2 n2 (l ++ indent k)) ∧ Hid (Below B w wr)) (fun i _ => d.toNat - (intOf i).toNat)
  case atStart => exact ⟨0, g1, cap1, _, Nat.zero_le _, rfl, HE1, HB1⟩
  case round =>
    obtain ⟨k, g2, cap2, n2, hk, rfl, HE2, HB2⟩ := hrel
    clear HE1 HB1 k0 k1
    by_cases hlt : (k : Int) < d
    · have hn2 : n2 ≤ 8192 := by rw [HE2.out.len, List.length_append, indent_length, ← HN.out]; omega
      obtain ⟨c0, -, -, -, -, f0⟩ := HE2.out.cells
      have hrow2 := HE2.out.row
      go_wp2_with (at_builtin; refine wpList_append_own _ rfl _ _ 22 rfl B 5 i0 (.int .u8 0) 1 1 Yba.underlying22 hi hz0 hz1 hz2 rfl (by decide) _ _ _ rfl (HE2.out.own.alloc _) ⟨wr.heap.size, 0, none⟩ 2 2 [.int .u8 32, .int .u8 32] rfl rfl ?d1 ?d2 ?d3 ?d4 ?d5 ?_)
      case d1 => exact cell_two_new _ _ _ _
      case d2 => intro u hu; simp at hu; subst hu; rfl
      case d3 => unfold maxLen; omega
      case d4 => omega
      case d5 => simp; omega
      intro v2 w2 hown hgrow _
      obtain ⟨g3, cap3, hv, k2, k3, hE3, hb3⟩ := HE2.out.push (news := [32, 32]) (by simp) hown hgrow
      rw [hv]
      have HE3 := hid hE3
      have HB3 := hid (HB2.out.trans hb3)
      clear hv hown hgrow c0 f0 HE2 HB2 hE3 hb3
      go_wp2
      go_roundw
      case rel =>
        refine ⟨k + 1, g3, cap3, n2 + 2, by omega, by go_num, ?_, HB3⟩
        have := HE3.out
        rw [List.append_assoc, ← indent_succ] at this
        exact this
      case measure => simp [intOf]; omega
    · go_wp2
      first | go_end0 | refine bodyPost_ret (results_none rfl _ _ _) rfl ?_
      have e : k = d.toNat := by omega
      exact ⟨rfl, HB2.out, g2, cap2, n2, e ▸ HE2.out⟩

/-- What closeArray writes. -/
def closing (n d : Int) : List Int := (if 0 < n then indent d.toNat else []) ++ [93]

set_option maxHeartbeats 1000000 in
theorem close_any (B Be g cap n : Nat) (l : List Int) (m d : Int) (w : World) (hE : Enc B Be w g cap n l) (hd : d ≤ 1024) (hl : n ≤ 4096) :
    Calls Yba.prog 6 #[.pointer (some ⟨Be, 0, none⟩), .int .i64 m, .int .i64 d] w fun e w' => e = .returned (.tuple #[]) ∧ Below B w w' ∧ ∃ g' cap' n', Enc B Be w' g' cap' n' (l ++ closing m d) := by
  obtain ⟨i0, hi, hz0, hz1, hz2⟩ := info_parts info5
  have HN : Hid (n = l.length) := hE.len
  by_cases hm : 0 < m
  · have hcl : closing m d = indent d.toNat ++ [93] := by simp [closing, hm]
    have HC : Hid (closing m d = indent d.toNat ++ [93]) := hcl
    have HE : Hid (Enc B Be w g cap n l) := hE
    clear hE hcl
    go_enter Yba.func6, Yba.ntmps6
    go_wp2_with fail
    refine (newline_any B Be g cap n l d _ HE.out hd hl).mono ?_
    rintro e w1 ⟨rfl, hb1, g1, cap1, n1, hE1⟩
    have hn1 : n1 ≤ 8192 := by rw [hE1.len, List.length_append, indent_length, ← HN.out]; omega
    obtain ⟨c0, -, -, -, -, f0⟩ := hE1.cells
    have hrow1 := hE1.row
    have HE1 := hid hE1
    have HB1 := hid hb1
    clear hE1 hb1 HE
    go_wp2_with (at_builtin; refine wpList_append_own _ rfl _ _ 22 rfl B 5 i0 (.int .u8 0) 1 1 Yba.underlying22 hi hz0 hz1 hz2 rfl (by decide) _ _ _ rfl (HE1.out.own.alloc _) ⟨w1.heap.size, 0, none⟩ 1 1 [.int .u8 93] rfl rfl ?d1 ?d2 ?d3 ?d4 ?d5 ?_)
    case d1 => exact cell_one_new _ _ _
    case d2 => intro u hu; simp at hu; subst hu; rfl
    case d3 => unfold maxLen; omega
    case d4 => omega
    case d5 => simp; omega
    intro v2 w2 hown hgrow _
    obtain ⟨g3, cap3, hv, k2, k3, hE3, hb3⟩ := HE1.out.push (news := [93]) (by simp) hown hgrow
    rw [hv]
    have HE3 := hid hE3
    have HB3 := hid (HB1.out.trans hb3)
    clear hv hown hgrow c0 f0 HE1 HB1 hE3 hb3
    go_wp2
    first | go_end0 | refine bodyPost_ret (results_none rfl _ _ _) rfl ?_
    refine ⟨rfl, HB3.out, g3, cap3, n1 + 1, ?_⟩
    rw [HC.out, ← List.append_assoc]
    exact HE3.out
  · have hcl : closing m d = [93] := by simp [closing, hm]
    have HC : Hid (closing m d = [93]) := hcl
    obtain ⟨c0, -, -, -, -, f0⟩ := hE.cells
    have hrow1 := hE.row
    have HE1 : Hid (Enc B Be w g cap n l) := hE
    clear hE hcl
    go_enter Yba.func6, Yba.ntmps6
    go_wp2_with (at_builtin; refine wpList_append_own _ rfl _ _ 22 rfl B 5 i0 (.int .u8 0) 1 1 Yba.underlying22 hi hz0 hz1 hz2 rfl (by decide) _ _ _ rfl (HE1.out.own.alloc _) ⟨w.heap.size, 0, none⟩ 1 1 [.int .u8 93] rfl rfl ?e1 ?e2 ?e3 ?e4 ?e5 ?_)
    case e2 => first | rfl | (intro u hu; simp at hu; subst hu; rfl)
    case e3 => unfold maxLen; omega
    case e4 => omega
    case e5 => first | omega | (simp; omega)
    intro v2 w2 hown hgrow _
    obtain ⟨g3, cap3, hv, k2, k3, hE3, hb3⟩ := HE1.out.push (news := [93]) (by simp) hown hgrow
    rw [hv]
    have HE3 := hid hE3
    have HB3 := hid hb3
    clear hv hown hgrow c0 f0 HE1 hE3 hb3
    go_wp2
    first | go_end0 | refine bodyPost_ret (results_none rfl _ _ _) rfl ?_
    refine ⟨rfl, HB3.out, g3, cap3, n + 1, ?_⟩
    rw [HC.out]
    exact HE3.out
end Go.Proofs.Ybulkalpg
