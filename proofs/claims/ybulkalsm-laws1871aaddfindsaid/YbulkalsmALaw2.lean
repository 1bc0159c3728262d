/-
  THE WALK of LawS1871AAddFind.
-/
import Derived.Test.YbulkalsmALaw1
namespace Go.Proofs.Ybulkalsm
open Go.RowKit Tab
set_option linter.unusedVariables false

theorem new_at (w : World) (o : Obj) (n : Nat) (h : n = w.heap.size) : (w.alloc o).heap[n]? = some o := by subst h; exact heap_alloc_new _ _
theorem old_at (w : World) (o : Obj) (n : Nat) (x : Option Obj) (h : n < w.heap.size) (hx : w.heap[n]? = x) : (w.alloc o).heap[n]? = x := (Below.heap_alloc w o n h).trans hx

/-- The five blocks as the law lays them. -/
theorem start_tbl (H : Nat → Nat) (w : World) (hsv : Value) : Tbl H w.heap.size w (((((w.alloc (.cells #[hsv] 22)).alloc (.cells #[.slice none 0 0, .int .i64 0] 26)).alloc (.cells #[.int .i64 0] 3)).alloc (.cells #[.bool false] 4)).alloc (.cells #[.int .i32 0] 21)) hsv 0 0 0 0 := by
  refine ⟨none, [], ⟨?_, ?_, ?_, ?_, ?_, ?_⟩, full_nil H, rfl, by omega, by omega, .inl ⟨rfl, rfl⟩⟩
  · exact old_at _ _ _ _ (by first | (simp; done) | (simp; omega)) (old_at _ _ _ _ (by first | (simp; done) | (simp; omega)) (old_at _ _ _ _ (by first | (simp; done) | (simp; omega)) (old_at _ _ _ _ (by simp) (new_at _ _ _ rfl))))
  · exact old_at _ _ _ _ (by first | (simp; done) | (simp; omega)) (old_at _ _ _ _ (by first | (simp; done) | (simp; omega)) (old_at _ _ _ _ (by simp) (new_at _ _ _ (by simp))))
  · exact old_at _ _ _ _ (by first | (simp; done) | (simp; omega)) (old_at _ _ _ _ (by simp) (new_at _ _ _ (by simp)))
  · exact old_at _ _ _ _ (by simp) (new_at _ _ _ (by simp))
  · exact new_at _ _ _ (by simp)
  · exact (((((Below.refl _ _).alloc (Nat.le_refl _) _).alloc (by simp) _).alloc (by simp; omega) _).alloc (by simp; omega) _).alloc (by simp; omega) _

theorem info4 : (Yba.prog.info? 4).map (fun i => (i.zero, i.size, i.bytes)) = some (some (.bool false), 1, 1) := by kernel_rfl
/-- A row of bools. -/
def BRow (w : World) (g : Nat) (S : List Bool) : Prop := w.heap[g]? = some (.cells (S.map Value.bool).toArray 4 (0, 0))
theorem BRow.cell {w : World} {g : Nat} {S : List Bool} (h : BRow w g S) (n : Nat) (hn : n < S.length) : w.cell? ⟨g, n, none⟩ = some (.bool (S.getD n false)) ∧ w.frozen? ⟨g, n, none⟩ = false := by
  constructor
  · simp [World.cell?, show w.heap[g]? = _ from h, hn]
  · simp [World.frozen?, show w.heap[g]? = _ from h]
theorem BRow.set_self {w : World} {g : Nat} {S : List Bool} (h : BRow w g S) (n : Nat) (v : Bool) : BRow (w.setCell ⟨g, n, none⟩ (.bool v)) g (S.set n v) := by
  unfold BRow
  rw [setCell_self h, List.setIfInBounds_toArray, List.map_set]
theorem made_brow {w : World} {base g n : Nat} (h : w.ownsRow base 4 1 (.slice (some ⟨g, 0, none⟩) n n) n (madeCells #[.bool false] n).toList) : BRow w g (List.replicate n false) := by
  rcases h.2 with ⟨hv, _⟩ | ⟨g', cap, cur, hv, _, hh, _, _, hs, ht⟩
  · simp at hv
  · simp only [Value.slice.injEq, Option.some.injEq, Addr.mk.injEq] at hv
    obtain ⟨⟨rfl, _⟩, _, rfl⟩ := hv
    unfold BRow
    rw [hh]
    have e : cur = ((List.replicate n false).map Value.bool).toArray := by
      rw [List.take_of_length_le (by simp [hs])] at ht
      apply Array.toList_inj.1
      rw [ht]
      apply List.ext_getElem
      · simp [size_madeCells]
      · intro j h1 h2
        simp [madeCells]
        rw [Nat.mod_one]
        rfl
    rw [e]
/-- What is marked among the first j slots. -/
def Seen (T : List Int) (j k : Nat) (S : List Bool) : Prop := S.length = k ∧ ∀ n, S.getD n false = true → ∃ p, p < j ∧ slotAt T p = (n : Int) + 1
theorem seen_start (T : List Int) (k : Nat) : Seen T 0 k (List.replicate k false) := by
  refine ⟨List.length_replicate, fun n h => ?_⟩
  rcases Nat.lt_or_ge n k with h' | h'
  · simp [h'] at h
  · simp [List.getElem?_eq_none (show (List.replicate k false).length ≤ n by simpa using h')] at h
theorem seen_skip {T : List Int} {j k : Nat} {S : List Bool} (h : Seen T j k S) : Seen T (j + 1) k S :=
  ⟨h.1, fun n hn => by obtain ⟨p, hp, e⟩ := h.2 n hn; exact ⟨p, by omega, e⟩⟩
theorem seen_mark {T : List Int} {j k n : Nat} {S : List Bool} (h : Seen T j k S) (hn : slotAt T j = (n : Int) + 1) : Seen T (j + 1) k (S.set n true) := by
  refine ⟨by simpa using h.1, fun q hq => ?_⟩
  by_cases e : q = n
  · exact ⟨j, by omega, by rw [e]; exact hn⟩
  · have : S.getD q false = true := by simpa [List.getD_eq_getElem?_getD, List.getElem?_set_ne (Ne.symm e)] using hq
    obtain ⟨p, hp, e⟩ := h.2 q this
    exact ⟨p, by omega, e⟩
theorem seen_not {H : Nat → Nat} {T : List Int} {j k n : Nat} {S : List Bool} (hg : Tab.Good H T) (h : Seen T j k S) (hj : j < T.length) (hn : slotAt T j = (n : Int) + 1) : S.getD n false = false := by
  cases hs : S.getD n false with
  | false => rfl
  | true =>
    obtain ⟨p, hp, e⟩ := h.2 n hs
    have := hg.inj j p hj (by omega) (by omega) (by rw [hn, e])
    omega

theorem Tbl.sixteen {H : Nat → Nat} {B : Nat} {w0 w : World} {hsv : Value} {k m i c : Nat} (h : Tbl H B w0 w hsv k m i c) : (c = 0 ∨ 16 ≤ c) ∧ 2 * k ≤ c := by
  obtain ⟨ao, T, hS, hF, hTl, h2k, hc, hao⟩ := h
  refine ⟨?_, h2k⟩
  rcases hao with ⟨h0, _⟩ | ⟨g, e, _, _, _, _, h16⟩
  · exact .inl h0
  · exact .inr h16

set_option maxRecDepth 100000 in
set_option maxHeartbeats 4000000 in
theorem law_any (H : Nat → Nat) (w : World) (hsa : Option Addr) (len cap : Nat) (hl : len ≤ 1024) (hH : Hs w.heap.size w hsa len H) :
    Calls Yba.prog 3 #[.slice hsa len cap] w fun e w' => e = .returned (.bool true) ∧ Below w.heap.size w w' := by
  have g1 : ¬ (1024 : Int) < (len : Int) := by omega
  have HH := hid hH
  clear hH
  go_enter Yba.func3, Yba.ntmps3
  go_wp2
  go_loopw [8, 9, 25] (fun v8 v9 ix wr => ∃ k m c i : Nat, k ≤ len ∧ ix = .int .i64 k ∧ v8 = .int .i64 m ∧ v9 = .int .i64 c ∧ m ≤ k * 1024 ∧ c ≤ 4096 ∧ Hid (Tbl H w.heap.size w wr (.slice hsa len cap) k m i c)) (fun _ _ ix _ => len - (intOf ix).toNat)
  case atStart => exact ⟨0, 0, 0, 0, Nat.zero_le _, rfl, rfl, rfl, by omega, by omega, start_tbl H w _⟩
  case round =>
    obtain ⟨k, m, c, i, hk, rfl, rfl, rfl, hm, hc, HT⟩ := hrel
    by_cases hkl : k < len
    · obtain ⟨ao, T, hS, _⟩ := HT.out
      obtain ⟨c0, -, -, -, -, c5⟩ := hS.cells
      obtain ⟨-, -, -, f5⟩ := hS.free
      obtain ⟨b, off, rfl, hbB, hch⟩ := HH.out.cell k hkl
      have hch' : wr.cell? ⟨b, off + k, none⟩ = some (.int .u64 (H k)) := (hS.below.cell (p := ⟨b, off + k, none⟩) hbB).trans hch
      have HT2 := hid (HT.out.set_cur k)
      have h16 := HT.out.sixteen
      clear hS hch HT
      by_cases hg : c < 2 * (k + 1)
      · have hg' : (c : Int) < 2 * ((k : Int) + 1) := by omega
        have HAs : Hid (askN c k m = m + k) := by show _ = _; unfold askN; rw [if_pos hg]
        by_cases hmx : (16 : Int) < 2 * (c : Int)
        · have HCs : Hid (capN c k = 2 * c) := by show _ = _; unfold capN; rw [if_pos hg]; omega
          go_wp2_with fail
          refine (add_any H w.heap.size w _ _ len cap k m c HT2.out HH.out hkl hl (by omega)).mono ?_
          rintro e2 w2 ⟨rfl, hT3⟩
          rw [HAs.out, HCs.out] at hT3
          have HT3 := hid hT3
          clear hT3 HT2 c0 c5 f5 hch'
          go_wp2
          go_roundw
          case rel => exact ⟨k + 1, m + k, 2 * c, k, by omega, by go_num, by go_num, by go_num, by omega, by omega, HT3⟩
          case measure => simp [intOf]; omega
        · have HCs : Hid (capN c k = 16) := by show _ = _; unfold capN; rw [if_pos hg]; omega
          go_wp2_with fail
          refine (add_any H w.heap.size w _ _ len cap k m c HT2.out HH.out hkl hl (by omega)).mono ?_
          rintro e2 w2 ⟨rfl, hT3⟩
          rw [HAs.out, HCs.out] at hT3
          have HT3 := hid hT3
          clear hT3 HT2 c0 c5 f5 hch'
          go_wp2
          go_roundw
          case rel => exact ⟨k + 1, m + k, 16, k, by omega, by go_num, by go_num, by go_num, by omega, by omega, HT3⟩
          case measure => simp [intOf]; omega
      · have hg' : ¬ (c : Int) < 2 * ((k : Int) + 1) := by omega
        have HAs : Hid (askN c k m = m) := by show _ = _; unfold askN; rw [if_neg hg]
        have HCs : Hid (capN c k = c) := by show _ = _; unfold capN; rw [if_neg hg]
        go_wp2_with fail
        refine (add_any H w.heap.size w _ _ len cap k m c HT2.out HH.out hkl hl (by omega)).mono ?_
        rintro e2 w2 ⟨rfl, hT3⟩
        rw [HAs.out, HCs.out] at hT3
        have HT3 := hid hT3
        clear hT3 HT2 c0 c5 f5 hch'
        go_wp2
        go_roundw
        case rel => exact ⟨k + 1, m, c, k, by omega, by go_num, by go_num, by go_num, by omega, by omega, HT3⟩
        case measure => simp [intOf]; omega
    · obtain rfl : k = len := by omega
      obtain ⟨ao, T, hS, hF, hTl, h2k, hc', hao⟩ := HT.out
      obtain ⟨c0, c1, c2, c3, c4, -⟩ := hS.cells
      obtain ⟨wo, rfl⟩ : ∃ wo : World, wo = wr := ⟨_, rfl⟩
      have HS := hid hS
      have HF := hid hF
      have HL := hid hTl
      have HA := hid hao
      clear hS hF hTl hao HT
      obtain ⟨i0, hi, hz0, hz1, hz2⟩ := info_parts info4
      have hlt := HS.out.lt
      go_wp2_with fail
      go_quiet (fail)
      go_wp2_with (at_make; refine wpList_make_full _ rfl _ _ 30 rfl (w.heap.size + 5) 4 i0 (.bool false) 1 Yba.underlying30 hi hz0 hz1 .i64 .i64 _ _ k rfl rfl rfl rfl (by rw [hz2]; omega) (by unfold maxLen; omega) (by show w.heap.size + 5 ≤ wo.heap.size; omega) ?_)
      intro wa own gr
      have Sa := (HS.out.drew nq).grown gr
      have Ba : BRow wa wo.heap.size (List.replicate k false) := made_brow own
      have HAa : Hid (0 < c → ∃ g e, ao = some ⟨g, 0, none⟩ ∧ w.heap.size + 5 ≤ g ∧ g ≠ wo.heap.size ∧ Row wa g T ∧ c = 2 ^ e) := fun h0 => by
        rcases HA.out with ⟨h0', _⟩ | ⟨g, e, e1, e2, e3, e4, e5⟩
        · omega
        · exact ⟨g, e, e1, e2, by have := e3.lt; omega, (e3.drew nq).grown gr, e4⟩
      obtain ⟨a0, a1, -, -, -, -⟩ := Sa.cells
      have HSa := hid Sa
      have HBa := hid Ba
      clear own gr Sa Ba HS HA c0 c1 c2 c3 c4 hi hz0 hz1 hz2
      go_wp2
      go_loopw [12, 83] (fun v12 ix wr => ∃ (j q : Nat) (S : List Bool), j ≤ c ∧ ix = .int .i64 j ∧ v12 = .int .i64 q ∧ q ≤ j ∧ Hid (q = nz (T.take j)) ∧ Hid (St w.heap.size w wr (.slice hsa k cap) (.slice ao c c) k m i) ∧ Hid (BRow wr wo.heap.size S) ∧ Hid (Seen T j k S)
        ∧ Hid (0 < c → ∃ g e, ao = some ⟨g, 0, none⟩ ∧ w.heap.size + 5 ≤ g ∧ g ≠ wo.heap.size ∧ Row wr g T ∧ c = 2 ^ e)) (fun _ ix _ => c - (intOf ix).toNat)
      case atStart => exact ⟨0, 0, List.replicate k false, Nat.zero_le _, rfl, rfl, Nat.le_refl _, rfl, HSa, HBa, seen_start T k, HAa⟩
      case round =>
        obtain ⟨j, q, S, hj, rfl, rfl, hqj, HQ, HS2, HB2, HN2, HA2⟩ := hrel
        clear HSa HBa HAa a0 a1
        by_cases hjc : j < c
        · obtain ⟨g, e, rfl, hg5, hgne, hRg, hce⟩ := HA2.out (by omega)
          have hjT : j < T.length := by rw [HL.out]; exact hjc
          have hcell := cell_row hRg j hjT
          have HRg := hid hRg
          have HCE := hid hce
          have bj : (j : Int) < (c : Int) := by omega
          clear hRg hce
          by_cases hx : slotAt T j = 0
          · rw [hx] at hcell
            have HQ' : Hid (q = nz (T.take (j + 1))) := by show _ = _; rw [nz_take_succ T j hjT, if_pos hx]; exact HQ.out
            have HN3 := hid (seen_skip HN2.out)
            clear hx
            go_wp2
            go_roundw
            case rel => exact ⟨j + 1, q, S, by omega, by go_num, rfl, by omega, HQ', HS2, HB2, HN3, HA2⟩
            case measure => simp [intOf]; omega
          · have hpos := HF.out.good.pos j hjT hx
            have htop := HF.out.top j hjT
            obtain ⟨n, hn⟩ : ∃ n : Nat, slotAt T j = (n : Int) + 1 := ⟨(slotAt T j - 1).toNat, by omega⟩
            have hnk : n < k := by omega
            rw [hn] at hcell
            have hne : ((n : Int) + 1 == 0) = false := by simp; omega
            have hsn := seen_not HF.out.good HN2.out hjT hn
            obtain ⟨s1, s2⟩ := HB2.out.cell n (by rw [HN2.out.1]; exact hnk)
            rw [hsn] at s1
            obtain ⟨d0, -, -, -, -, -⟩ := HS2.out.cells
            have HQ' : Hid (q + 1 = nz (T.take (j + 1))) := by show _ = _; rw [nz_take_succ T j hjT, if_neg hx, ← HQ.out]
            have HN3 := hid (seen_mark HN2.out hn)
            have HS3 := hid (HS2.out.set_far (g := wo.heap.size) (p := n) (by omega) (.bool true))
            have HB3 := hid (HB2.out.set_self n true)
            have HR3 := hid (HRg.out.set_other (a := ⟨wo.heap.size, n, none⟩) hgne (.bool true))
            have l1 : ¬ (n : Int) + 1 < 1 := by omega
            have l2 : ¬ (k : Int) < (n : Int) + 1 := by omega
            have l3 : (n : Int) < (k : Int) := by omega
            clear hx hpos htop hn hsn HN2 HS2 HB2 HRg HA2 HQ
            go_wp2
            go_roundw
            case rel => exact ⟨j + 1, q + 1, S.set n true, by omega, by go_num, by go_num, by omega, HQ', HS3, HB3, HN3, fun _ => ⟨g, e, rfl, hg5, hgne, HR3.out, HCE.out⟩⟩
            case measure => simp [intOf]; omega
        · have hqk : q = k := by
            rw [HQ.out, show j = T.length by rw [HL.out]; omega, List.take_length]
            exact HF.out.count
          subst hqk
          obtain ⟨d0, -, -, -, -, -⟩ := HS2.out.cells
          obtain ⟨wp, rfl⟩ : ∃ wp : World, wp = wr := ⟨_, rfl⟩
          clear HQ HB2 HN2 hqj
          go_wp2
          go_loopw [118] (fun ix wr => ∃ y : Nat, y ≤ q ∧ ix = .int .i64 y ∧ Hid (St w.heap.size w wr (.slice hsa q cap) (.slice ao c c) q m i) ∧ Hid (0 < c → ∃ g e, ao = some ⟨g, 0, none⟩ ∧ w.heap.size + 5 ≤ g ∧ g ≠ wo.heap.size ∧ Row wr g T ∧ c = 2 ^ e)) (fun ix _ => q - (intOf ix).toNat)
          case atStart => exact ⟨0, Nat.zero_le _, rfl, HS2, HA2⟩
          case round =>
            obtain ⟨y, hy, rfl, HS3, HA3⟩ := hrel
            clear HS2 HA2 d0
            by_cases hyq : y < q
            · obtain ⟨g, e, hao, hg5, hgne, hRg, hce⟩ := HA3.out (by omega)
              obtain ⟨b, off, hsa', hbB, hch⟩ := HH.out.cell y hyq
              have S4 := HS3.out.alloc (.cells #[.int .i32 y] 21)
              have R4 := hRg.alloc (.cells #[.int .i32 y] 21)
              have cj : (wr.alloc (.cells #[.int .i32 y] 21)).cell? ⟨wr.heap.size, 0, none⟩ = some (.int .i32 y) := cell_of_one (heap_alloc_new _ _)
              obtain ⟨p0, hp0, hl0⟩ := HF.out.all y hyq
              have hrc := HF.out.good.reach p0 hp0 (by omega)
              rw [hl0, show ((y : Int) + 1 - 1).toNat = y by omega] at hrc
              have HFind : Hid (∀ n, Calls Yba.prog 8 #[.pointer (some ⟨w.heap.size + 1, 0, none⟩), .int .u64 (H y), .func (Fn.func 9) #[] #[.pointer (some ⟨wr.heap.size, 0, none⟩)]] ((wr.alloc (.cells #[.int .i32 y] 21)).drewN n) fun e w' => e = .returned (.int .i32 y) ∧ w' = (wr.alloc (.cells #[.int .i32 y] 21)).drewN n) := fun n =>
                find_any (w.heap.size + 1) wr.heap.size g c e T y (H y) _ HL.out hce (by omega) hc' (by omega) (HH.out.small y hyq) (by rw [← hao]; exact S4.cells.2.1) R4 cj HF.out.good.pos (fun p hp => by have := HF.out.top p hp; omega) p0 hl0 hrc
              have e0 : (wr.alloc (.cells #[.int .i32 y] 21)).cell? ⟨w.heap.size, 0, none⟩ = some (.slice (some ⟨b, off, none⟩) q cap) := by rw [← hsa']; exact S4.cells.1
              have e1 : (wr.alloc (.cells #[.int .i32 y] 21)).cell? ⟨b, off + y, none⟩ = some (.int .u64 (H y)) := (S4.below.cell (p := ⟨b, off + y, none⟩) hbB).trans hch
              have HS4 := hid S4
              have HA4 : Hid (0 < c → ∃ g e, ao = some ⟨g, 0, none⟩ ∧ w.heap.size + 5 ≤ g ∧ g ≠ wo.heap.size ∧ Row (wr.alloc (.cells #[.int .i32 y] 21)) g T ∧ c = 2 ^ e) := fun _ => ⟨g, e, hao, hg5, hgne, R4, hce⟩
              have by1 : (y : Int) < (q : Int) := by omega
              have hlt3 := HS3.out.lt
              clear S4 R4 hrc hl0 hch hRg hao hce hsa' HS3 HA3 hp0
              go_wp2_with fail
              go_quiet ((go_at_call 8; exact Calls.quiet_of_same (HFind.out _)))
              go_wp2
              go_roundw
              case rel => exact ⟨y + 1, by omega, by go_num, HS4.out.drew _, fun h0 => by obtain ⟨g, e, x1, x2, x3, x4, x5⟩ := HA4.out h0; exact ⟨g, e, x1, x2, x3, x4.drew _, x5⟩⟩
              case measure => simp [intOf]; omega
            · have HBl := hid HS3.out.below
              go_wp2
              go_ret
              exact ⟨rfl, HBl.out⟩
end Go.Proofs.Ybulkalsm
