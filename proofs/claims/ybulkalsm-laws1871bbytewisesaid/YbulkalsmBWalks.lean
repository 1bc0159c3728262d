/-
  THE WALKS of (*strings.Builder).copyCheck, WriteByte and WriteString at a builder that has been used, and of upperASCIIByte, zzs1871bup.
-/
import Derived.Test.YbulkalsmRows
import Derived.Test.YbulkalsmShelf
import Derived.WalkKit
import Derived.WalkSpells
import Derived.WalkLawsBesides
import Derived.Deep.QuietTactic
import Derived.BigQuiet
namespace Go.Proofs.Ybulkalsm
open Go.RowKit

theorem hid {p : Prop} (h : p) : Hid p := h
theorem info5 : (Yba.prog.info? 5).map (fun i => (i.zero, i.size, i.bytes)) = some (some (.int .u8 0), 1, 1) := by kernel_rfl

/-- A builder in use: block b; it holds the bytes bs. -/
abbrev Bld (B b : Nat) (bs : List Value) (w : World) : Prop := Lib.BuilderAt 41 5 B b (.pointer (some ⟨b, 0, none⟩)) bs w

theorem sizeBuilder : (Yba.prog.info? 41).map (·.size) = some 2 := by kernel_rfl
theorem check_any (b : Nat) (w : World) (h : w.cell? ⟨b, 0, none⟩ = some (.pointer (some ⟨b, 0, none⟩))) :
    Calls Yba.prog 18 #[.pointer (some ⟨b, 0, none⟩)] w fun e w' => e = .returned (.tuple #[]) ∧ w = w' := by
  obtain ⟨j, hj, _⟩ := Option.map_eq_some_iff.1 sizeBuilder
  go_enter Yba.func18, Yba.ntmps18
  go_wp2
  rw [Lib.run_neq_ptr_same w _ Yba.underlying38 hj]
  go_wp2
  go_end0
  exact ⟨rfl, rfl⟩

/-- What a write of at least one byte, or of a string, makes of the builder: v', w2: what the append leaves. -/
theorem Bld.put {B b n : Nat} {bs news : List Value} {w w2 : World} {v v' : Value} (hB : B ≤ b) (hbk : w.heap[b]? = some (.cells #[.pointer (some ⟨b, 0, none⟩), v] 41 (0, 0))) (hne : v.ownBlock ≠ some b)
    (hown : w2.ownsRow B 5 1 v' n (bs ++ news)) (hn : n = (bs ++ news).length) (hgrow : w.grownBy w2 v.ownBlock) :
    w2.cell? ⟨b, 0, none⟩ = some (.pointer (some ⟨b, 0, none⟩)) ∧ w2.cell? ⟨b, 1, none⟩ = some v ∧ w2.frozen? ⟨b, 1, none⟩ = false ∧ Bld B b (bs ++ news) (w2.setCell ⟨b, 1, none⟩ v') := by
  have hlt : b < w.heap.size := lt_of_block hbk
  have hb2 : w2.heap[b]? = some (.cells #[.pointer (some ⟨b, 0, none⟩), v] 41 (0, 0)) := by
    rw [hgrow.block b hlt (fun e => hne e.symm)]
    exact hbk
  subst hn
  exact ⟨by rw [Lib.cell_of_heap hb2]; rfl, by rw [Lib.cell_of_heap hb2]; rfl, Lib.frozen_of_heap hb2 1, Lib.BuilderAt.put (T := 41) (e := 5) hB hb2 (bs' := bs ++ news) hown (by decide)⟩

set_option maxHeartbeats 1000000 in
set_option maxRecDepth 100000 in
theorem writeByte_any (B b : Nat) (bs : List Value) (c : Int) (w : World) (h : Bld B b bs w) (hlen : bs.length + 1 ≤ 100000) (hBw : B ≤ w.heap.size) :
    Calls Yba.prog 16 #[.pointer (some ⟨b, 0, none⟩), .int .u8 c] w fun e w' => e = .returned .nilIface ∧ Bld B b (bs ++ [.int .u8 c]) w' ∧ Below B w w' := by
  obtain ⟨i0, hi, hz0, hz1, hz2⟩ := info_parts info5
  obtain ⟨hB, v, hbk, hown, hne⟩ := h
  have c0 : w.cell? ⟨b, 0, none⟩ = some (.pointer (some ⟨b, 0, none⟩)) := by rw [Lib.cell_of_heap hbk]; rfl
  have c1 : w.cell? ⟨b, 1, none⟩ = some v := by rw [Lib.cell_of_heap hbk]; rfl
  have HK := hid hbk
  have HN := hid hne
  have HO := hid hown
  clear hbk hne hown
  go_enter Yba.func16, Yba.ntmps16
  go_wp2_with (first | (go_at_call 18; refine (check_any b _ c0).mono ?_; rintro e w1 ⟨rfl, rfl⟩) | (at_builtin; refine wpList_append_own _ rfl _ _ 39 rfl B 5 i0 (.int .u8 0) 1 1 Yba.underlying39 hi hz0 hz1 hz2 rfl (by decide) _ _ _ rfl (HO.out.alloc _) ⟨_, 0, none⟩ 1 1 [.int .u8 c] rfl rfl ?c1 ?c2 ?c3 ?c4 ?c5 ?_))
  case c1 => exact cell_one_new _ _ _
  case c2 => intro u hu; simp at hu; subst hu; rfl
  case c3 => unfold maxLen; omega
  case c4 => omega
  case c5 => simp; omega
  intro v' w2 hown' hgrow _
  have hlt : b < w.heap.size := lt_of_block HK.out
  obtain ⟨d0, d1, f1, hP⟩ := Bld.put hB (w := w.alloc (.cells #[.int .u8 c] 5)) (by rw [Below.heap_alloc _ _ _ hlt]; exact HK.out) HN.out hown' (by simp) hgrow
  have HP := hid hP
  have HB := hid ((((Below.refl B w).alloc hBw (.cells #[.int .u8 c] 5)).grown hgrow (by simp; omega) (fun k hk => (HO.out.lt k hk).1)).setCell (p := ⟨b, 1, none⟩) hB v')
  obtain ⟨g, cap, hv⟩ : ∃ g cap, v' = .slice (some ⟨g, 0, none⟩) (bs.length + 1) cap := by
    rcases hown'.2 with ⟨_, h0⟩ | ⟨g, cap, cur, hv, _⟩
    · omega
    · exact ⟨g, cap, hv⟩
  rw [hv] at HP HB ⊢
  clear hown' hgrow HK HO HN hP hv
  go_wp2
  go_ret
  exact ⟨rfl, HP.out, HB.out⟩

set_option maxHeartbeats 1000000 in
set_option maxRecDepth 100000 in
theorem writeString_any (B b : Nat) (bs : List Value) (s : ByteArray) (w : World) (h : Bld B b bs w) (hlen : bs.length + s.size ≤ 100000) (hBw : B ≤ w.heap.size) :
    Calls Yba.prog 15 #[.pointer (some ⟨b, 0, none⟩), .string s] w fun e w' => e = .returned (.tuple #[.int .i64 s.size, .nilIface]) ∧ Bld B b (bs ++ Lib.strCells s) w' ∧ Below B w w' := by
  obtain ⟨i0, hi, hz0, hz1, hz2⟩ := info_parts info5
  obtain ⟨hB, v, hbk, hown, hne⟩ := h
  have c0 : w.cell? ⟨b, 0, none⟩ = some (.pointer (some ⟨b, 0, none⟩)) := by rw [Lib.cell_of_heap hbk]; rfl
  have c1 : w.cell? ⟨b, 1, none⟩ = some v := by rw [Lib.cell_of_heap hbk]; rfl
  have HK := hid hbk
  have HN := hid hne
  have HO := hid hown
  clear hbk hne hown
  go_enter Yba.func15, Yba.ntmps15
  go_wp2_with (first | (go_at_call 18; refine (check_any b _ c0).mono ?_; rintro e w1 ⟨rfl, rfl⟩) | (at_builtin; refine Lib.wpList_append_own_string _ rfl _ _ 39 9 rfl B 5 i0 Yba.underlying39 Yba.underlying9 hi hz0 hz1 hz2 _ _ _ rfl HO.out s rfl ?c3 ?c4 ?c5 ?_))
  case c3 => unfold maxLen; omega
  case c4 => omega
  case c5 => omega
  intro v' w2 hown' hgrow _
  obtain ⟨d0, d1, f1, hP⟩ := Bld.put hB HK.out HN.out hown' (by simp [Lib.strCells_length]) hgrow
  have HP := hid hP
  have HB := hid (((Below.refl B w).grown hgrow hBw (fun k hk => (HO.out.lt k hk).1)).setCell (p := ⟨b, 1, none⟩) hB v')
  obtain ⟨ao, n', cap, hv⟩ : ∃ ao n' cap, v' = .slice ao n' cap := by
    rcases hown'.2 with ⟨hv, _⟩ | ⟨g, cap, cur, hv, _⟩
    · exact ⟨_, _, _, hv⟩
    · exact ⟨_, _, _, hv⟩
  rw [hv] at HP HB ⊢
  clear hown' hgrow HK HO HN hP hv
  go_wp2
  go_ret2
  exact ⟨rfl, HP.out, HB.out⟩

/-- upperASCIIByte, zzs1871bup. -/
def up (c : Int) : Int := if 97 ≤ c ∧ c ≤ 122 then c - 32 else c
theorem up_any (c : Int) (h0 : 0 ≤ c) (h1 : c ≤ 255) (w : World) :
    Calls Yba.prog 13 #[.int .u8 c] w fun e w' => e = .returned (.int .u8 (up c)) ∧ w' = w := by
  by_cases ha : 97 ≤ c
  · by_cases hz : c ≤ 122
    · have hu : up c = c - 32 := by simp [up, ha, hz]
      rw [hu]; clear hu
      go_enter Yba.func13, Yba.ntmps13
      go_wp2
      go_ret
      exact ⟨rfl, rfl⟩
    · have hu : up c = c := by simp [up, hz]
      rw [hu]; clear hu
      go_enter Yba.func13, Yba.ntmps13
      go_wp2
      go_ret
      exact ⟨rfl, rfl⟩
  · have hu : up c = c := by simp [up, ha]
    rw [hu]; clear hu
    go_enter Yba.func13, Yba.ntmps13
    go_wp2
    go_ret
    exact ⟨rfl, rfl⟩
theorem bup_any (c : Int) (h0 : 0 ≤ c) (h1 : c ≤ 255) (w : World) :
    Calls Yba.prog 11 #[.int .u8 c] w fun e w' => e = .returned (.int .u8 (up c)) ∧ w' = w := by
  by_cases ha : 97 ≤ c
  · by_cases hz : c ≤ 122
    · have hu : up c = c - 32 := by simp [up, ha, hz]
      rw [hu]; clear hu
      go_enter Yba.func11, Yba.ntmps11
      go_wp2
      go_ret
      exact ⟨rfl, rfl⟩
    · have hu : up c = c := by simp [up, hz]
      rw [hu]; clear hu
      go_enter Yba.func11, Yba.ntmps11
      go_wp2
      go_ret
      exact ⟨rfl, rfl⟩
  · have hu : up c = c := by simp [up, ha]
    rw [hu]; clear hu
    go_enter Yba.func11, Yba.ntmps11
    go_wp2
    go_ret
    exact ⟨rfl, rfl⟩
end Go.Proofs.Ybulkalsm
