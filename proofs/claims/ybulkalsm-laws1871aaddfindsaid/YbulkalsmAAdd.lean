/-
  THE WALKS of (*idTable).add: with room; growing.
-/
import Derived.Test.YbulkalsmAState
namespace Go.Proofs.Ybulkalsm
open Go.RowKit Tab
set_option linter.unusedVariables false

/-- The law's first closure, as a value. -/
abbrev hashF (B : Nat) : Value := .func (Fn.func 6) #[] #[.pointer (some ⟨B + 2, 0, none⟩), .pointer (some ⟨B + 4, 0, none⟩), .pointer (some ⟨B + 3, 0, none⟩), .pointer (some ⟨B, 0, none⟩)]

set_option maxRecDepth 100000 in
set_option maxHeartbeats 1000000 in
theorem add_room (B : Nat) (w0 w : World) (hsv : Value) (k m i g c e h : Nat) (T : List Int) (hS : St B w0 w hsv (.slice (some ⟨g, 0, none⟩) c c) k m i) (hR : Row w g T) (hg : B + 5 ≤ g) (hT : T.length = c) (he : c = 2 ^ e) (h1 : 16 ≤ c) (h2 : c ≤ 4096)
    (hk : nz T = k) (hroom : 2 * (k + 1) ≤ c) (hh : h < 18446744073709551616) :
    Calls Yba.prog 7 #[.pointer (some ⟨B + 1, 0, none⟩), .int .i32 k, .int .u64 h, hashF B] w fun e w' =>
      e = .returned (.tuple #[]) ∧ ∃ p, PutAt T h p ∧ St B w0 w' hsv (.slice (some ⟨g, 0, none⟩) c c) (k + 1) m i ∧ Row w' g (T.set p ((k : Int) + 1)) := by
  obtain ⟨-, c1, c2, -, -, -⟩ := hS.cells
  obtain ⟨f1, f2, -, -⟩ := hS.free
  have HS := hid hS
  have HR := hid hR
  have HT := hid hT
  have HE := hid he
  have HK := hid hk
  have b1 : ¬ (c : Int) < 2 * ((k : Int) + 1) := by omega
  have w1 : IntKind.i64.wrap ((k : Int) + 1) = (k : Int) + 1 := by rw [IntKind.wrap_i64]; omega
  have w2 : IntKind.i64.wrap (2 * ((k : Int) + 1)) = 2 * ((k : Int) + 1) := by rw [IntKind.wrap_i64]; omega
  clear hS hR hT he hk
  go_enter Yba.func7, Yba.ntmps7
  go_wp2_with fail
  go_quiet (fail)
  clear w1 w2
  go_wp2_with fail
  refine (put_any (B + 1) g c e T k h _ HT.out HE.out (by omega) h2 (by omega) hh (by exact (HS.out.drew nq).cells.2.1) (by exact HR.out) (by rw [HK.out]; omega)).mono ?_
  rintro e2 w2 ⟨rfl, p, hp, hw⟩
  have S2 : St B w0 w2 hsv (.slice (some ⟨g, 0, none⟩) c c) k m i := by rw [hw]; exact (HS.out.drew nq).set_far hg _
  have R2 : Row w2 g (T.set p ((k : Int) + 1)) := by rw [hw]; exact (HR.out.drew nq).set_self p _
  obtain ⟨-, d1, d2, -, -, -⟩ := S2.cells
  obtain ⟨-, d3, -, -⟩ := S2.free
  have S3 := S2.set_len (k + 1)
  rw [show ((k + 1 : Nat) : Int) = (k : Int) + 1 by omega] at S3
  have HS3 := hid S3
  have HR3 := hid (R2.set_other (a := ⟨B + 1, 1, none⟩) (by show g ≠ B + 1; omega) (.int .i64 ((k : Int) + 1)))
  have HP := hid hp
  clear hw S2 R2 S3 hp HS HR HK c1 c2 f1 f2
  go_wp2
  first | go_end0 | refine bodyPost_ret (results_none rfl _ _ _) rfl ?_
  exact ⟨rfl, p, HP.out, HS3.out, HR3.out⟩

theorem info21 : (Yba.prog.info? 21).map (fun i => (i.zero, i.size, i.bytes)) = some (some (.int .i32 0), 1, 4) := by kernel_rfl

/-- What the law's argument is: the numbers H 0, H 1, .. -/
structure Hs (B : Nat) (w0 : World) (ao : Option Addr) (len : Nat) (H : Nat → Nat) : Prop where
  cell : ∀ n, n < len → ∃ b off, ao = some ⟨b, off, none⟩ ∧ b < B ∧ w0.cell? ⟨b, off + n, none⟩ = some (.int .u64 (H n))
  small : ∀ n, n < len → H n < 18446744073709551616

/-- The row that 'make([]int32, n)' has laid. -/
theorem made_row {w : World} {base g n : Nat} (h : w.ownsRow base 21 1 (.slice (some ⟨g, 0, none⟩) n n) n (madeCells #[.int .i32 0] n).toList) : Row w g (List.replicate n 0) := by
  rcases h.2 with ⟨hv, _⟩ | ⟨g', cap, cur, hv, _, hh, _, _, hs, ht⟩
  · simp at hv
  · simp only [Value.slice.injEq, Option.some.injEq, Addr.mk.injEq] at hv
    obtain ⟨⟨rfl, _⟩, _, rfl⟩ := hv
    unfold Row
    rw [hh]
    have e : cur = cellsOf (List.replicate n 0) := by
      rw [List.take_of_length_le (by simp [hs])] at ht
      apply Array.toList_inj.1
      rw [ht]
      apply List.ext_getElem
      · simp [cellsOf, size_madeCells]
      · intro j h1 h2
        simp [madeCells, cellsOf]
        rw [Nat.mod_one]
        rfl
    rw [e]

set_option maxRecDepth 100000 in
set_option maxHeartbeats 4000000 in
theorem add_grow (H : Nat → Nat) (B : Nat) (w0 w : World) (hsa : Option Addr) (len cap : Nat) (k m c C E : Nat) (ao : Option Addr) (T : List Int) (hS : St B w0 w (.slice hsa len cap) (.slice ao c c) k m k)
    (hH : Hs B w0 hsa len H) (hkl : k < len) (hl : len ≤ 1024) (hm : m ≤ 5000000) (hF : Full H T k) (hT : T.length = c) (hc : c ≤ 2048) (h2k : 2 * k ≤ c) (hgrow : c < 2 * (k + 1)) (hC : max 16 (2 * c) = C) (hCE : C = 2 ^ E)
    (hao : 0 < c → ∃ g, ao = some ⟨g, 0, none⟩ ∧ B + 5 ≤ g ∧ Row w g T) :
    Calls Yba.prog 7 #[.pointer (some ⟨B + 1, 0, none⟩), .int .i32 k, .int .u64 (H k), hashF B] w fun e w' =>
      e = .returned (.tuple #[]) ∧ ∃ g' T', B + 5 ≤ g' ∧ T'.length = C ∧ Full H T' (k + 1) ∧ St B w0 w' (.slice hsa len cap) (.slice (some ⟨g', 0, none⟩) C C) (k + 1) (m + k) k ∧ Row w' g' T' := by
  obtain ⟨i0, hi, hz0, hz1, hz2⟩ := info_parts info21
  obtain ⟨-, c1, c2, -, -, -⟩ := hS.cells
  obtain ⟨f1, f2, -, -⟩ := hS.free
  have hlt := hS.lt
  have HS := hid hS
  have HT := hid hT
  have HE := hid hCE
  have HF := hid hF
  have HH := hid hH
  have HA := hid hao
  have HC := hid hC
  have hC1 : 16 ≤ C := by omega
  have hC2 : C ≤ 4096 := by omega
  have hkC : k < C := by omega
  have b1 : (c : Int) < 2 * ((k : Int) + 1) := by omega
  have w1 : IntKind.i64.wrap ((k : Int) + 1) = (k : Int) + 1 := by rw [IntKind.wrap_i64]; omega
  have w2 : IntKind.i64.wrap (2 * ((k : Int) + 1)) = 2 * ((k : Int) + 1) := by rw [IntKind.wrap_i64]; omega
  clear hS hT hCE hF hH hao hC
  by_cases hmx : (16 : Int) < 2 * (c : Int)
  · go_enter Yba.func7, Yba.ntmps7
    go_wp2_with fail
    go_quiet (fail)
    clear w1 w2
    go_wp2_with (at_make; refine wpList_make_full _ rfl _ _ 24 rfl (B + 5) 21 i0 (.int .i32 0) 1 Yba.underlying24 hi hz0 hz1 .i64 .i64 _ _ C rfl rfl (by have := HC.out; omega) (by have := HC.out; omega) (by rw [hz2]; omega) (by unfold maxLen; omega) (by show B + 5 ≤ w.heap.size; omega) ?_)
    intro wa own gr
    have Sa := (HS.out.drew nq).grown gr
    have Ra : Row wa w.heap.size (List.replicate C 0) := made_row own
    have HAa : Hid (0 < c → ∃ g, ao = some ⟨g, 0, none⟩ ∧ B + 5 ≤ g ∧ g ≠ w.heap.size ∧ Row wa g T) := fun h0 => by
      obtain ⟨g, e1, e2, e3⟩ := HA.out h0
      exact ⟨g, e1, e2, by have := e3.lt; omega, (e3.drew nq).grown gr⟩
    obtain ⟨-, a1, a2, -, -, -⟩ := Sa.cells
    obtain ⟨a3, a4, -, -⟩ := Sa.free
    have Sb := Sa.set_slots (.slice (some ⟨w.heap.size, 0, none⟩) C C)
    have Rb := Ra.set_other (a := ⟨B + 1, 0, none⟩) (by show w.heap.size ≠ B + 1; omega) (.slice (some ⟨w.heap.size, 0, none⟩) C C)
    have HAb : Hid (0 < c → ∃ g, ao = some ⟨g, 0, none⟩ ∧ B + 5 ≤ g ∧ g ≠ w.heap.size ∧ Row (wa.setCell ⟨B + 1, 0, none⟩ (.slice (some ⟨w.heap.size, 0, none⟩) C C)) g T) := fun h0 => by
      obtain ⟨g, e1, e2, e3, e4⟩ := HAa.out h0
      exact ⟨g, e1, e2, e3, e4.set_other (by show g ≠ B + 1; omega) _⟩
    have HSb := hid Sb
    have HRb := hid Rb
    clear own gr Sa Ra HAa Sb Rb HS HA c1 c2 f1 f2
    go_wp2
    go_loopw [37] (fun ix wr => ∃ (j : Nat) (T' : List Int), j ≤ c ∧ ix = .int .i64 j ∧ Hid (St B w0 wr (.slice hsa len cap) (.slice (some ⟨w.heap.size, 0, none⟩) C C) k (m + nz (T.take j)) k) ∧ Hid (Row wr w.heap.size T') ∧ Hid (T'.length = C) ∧ Hid (Over H T j T') ∧ Hid (0 < c → ∃ g, ao = some ⟨g, 0, none⟩ ∧ B + 5 ≤ g ∧ g ≠ w.heap.size ∧ Row wr g T)) (fun ix _ => c - (intOf ix).toNat)
    case atStart => exact ⟨0, List.replicate C 0, Nat.zero_le _, rfl, HSb, HRb, List.length_replicate, over_start H T C, HAb⟩
    case round =>
      obtain ⟨j, T', hj, rfl, HS2, HR2, HL2, HO2, HA2⟩ := hrel
      clear HSb HRb HAb a1 a2 a3 a4
      have hnz : nz (T.take j) ≤ k := by have := nz_take_le T j; rw [HF.out.count] at this; exact this
      by_cases hjc : j < c
      · obtain ⟨g, rfl, hg5, hgne, hRg⟩ := HA2.out (by omega)
        have HRg := hid hRg
        have hcell := cell_row hRg j (by rw [HT.out]; exact hjc)
        have bj : (j : Int) < (c : Int) := by omega
        clear hRg
        by_cases hx : slotAt T j = 0
        · rw [hx] at hcell
          have HO3 := hid (over_skip HO2.out (by rw [HT.out]; exact hjc) hx)
          have HN : Hid (nz (T.take (j + 1)) = nz (T.take j)) := by show _ = _; rw [nz_take_succ T j (by rw [HT.out]; exact hjc), if_pos hx]; rfl
          clear hx
          go_wp2
          go_roundw
          case rel => exact ⟨j + 1, T', by omega, by go_num, by rw [HN.out]; exact HS2, HR2, HL2, HO3, HA2⟩
          case measure => simp [intOf]; omega
        · have hjT : j < T.length := by rw [HT.out]; exact hjc
          have hpos := HF.out.good.pos j hjT hx
          have htop := HF.out.top j hjT
          obtain ⟨n, hn⟩ : ∃ n : Nat, slotAt T j = (n : Int) + 1 := ⟨(slotAt T j - 1).toNat, by omega⟩
          have hnk : n < k := by omega
          rw [hn] at hcell
          have hne : ((n : Int) + 1 != 0) = true := by simp; omega
          obtain ⟨b, off, hsa', hbB, hch⟩ := HH.out.cell n (by omega)
          obtain ⟨d0, d1, d2, d3, d4, d5⟩ := HS2.out.cells
          obtain ⟨-, -, d6, -⟩ := HS2.out.free
          rw [hsa'] at d0
          have hch' : wr.cell? ⟨b, off + n, none⟩ = some (.int .u64 (H n)) := (HS2.out.below.cell (p := ⟨b, off + n, none⟩) hbB).trans hch
          have HN : Hid (nz (T.take (j + 1)) = nz (T.take j) + 1) := by show _ = _; rw [nz_take_succ T j hjT, if_neg hx]
          have HX := hid hn
          have hHn := HH.out.small n (by omega)
          clear hx hpos htop hn hch
          go_wp2_with fail
          refine (hash_any B b off len cap k (m + nz (T.take j)) n (H n) wr hbB hnk (by omega) hl (by omega) d3 d6 d5 d0 hch').mono ?_
          rintro e2 wh ⟨rfl, hw⟩
          have Sh : St B w0 wh (.slice hsa len cap) (.slice (some ⟨w.heap.size, 0, none⟩) C C) k (m + nz (T.take j) + 1) k := by
            have := HS2.out.set_calls (m + nz (T.take j) + 1)
            rw [show ((m + nz (T.take j) + 1 : Nat) : Int) = ((m + nz (T.take j) : Nat) : Int) + 1 by omega] at this
            rw [hw]; exact this
          have Rh : Row wh w.heap.size T' := by rw [hw]; exact HR2.out.set_other (by show w.heap.size ≠ B + 2; omega) _
          have Rgh : Row wh g T := by rw [hw]; exact HRg.out.set_other (by show g ≠ B + 2; omega) _
          have HSh := hid Sh
          have HRh := hid Rh
          have HRgh := hid Rgh
          clear hw Sh Rh Rgh HS2 HR2 HRg HA2 d0 d1 d2 d3 d4 d5 d6 hch' hcell
          go_wp2_with fail
          refine (put_any (B + 1) w.heap.size C E T' n (H n) wh HL2.out HE.out (by omega) hC2 (by omega) hHn HSh.out.cells.2.1 HRh.out (by rw [HO2.out.count]; omega)).mono ?_
          rintro e3 wp ⟨rfl, p, hp, hw⟩
          have Sp : St B w0 wp (.slice hsa len cap) (.slice (some ⟨w.heap.size, 0, none⟩) C C) k (m + nz (T.take j) + 1) k := by rw [hw]; exact HSh.out.set_far (by omega) _
          have Rp : Row wp w.heap.size (T'.set p ((n : Int) + 1)) := by rw [hw]; exact HRh.out.set_self p _
          have Rgp : Row wp g T := by rw [hw]; exact HRgh.out.set_other hgne _
          have HO3 := hid (over_put HF.out.good HO2.out hjT HX.out hp)
          have HL3 : Hid ((T'.set p ((n : Int) + 1)).length = C) := by show _ = _; rw [List.length_set]; exact HL2.out
          have HSp := hid Sp
          have HRp := hid Rp
          have HRgp := hid Rgp
          clear hw Sp Rp Rgp hp HSh HRh HRgh HO2 HL2
          go_wp2
          go_roundw
          case rel => exact ⟨j + 1, T'.set p ((n : Int) + 1), by omega, by go_num, by rw [HN.out, ← Nat.add_assoc]; exact HSp, HRp, HL3, HO3, fun _ => ⟨g, rfl, hg5, hgne, HRgp.out⟩⟩
          case measure => simp [intOf]; omega
      · have hjT : j = T.length := by rw [HT.out]; omega
        have HF2 : Hid (Full H T' k) := full_over HF.out (by rw [← hjT]; exact HO2.out)
        have S2 : St B w0 wr (.slice hsa len cap) (.slice (some ⟨w.heap.size, 0, none⟩) C C) k (m + k) k := by
          have := HS2.out
          rw [hjT, List.take_length, HF.out.count] at this
          exact this
        have HS3 := hid S2
        have hHk := HH.out.small k hkl
        clear S2 HS2 hjT HO2 HA2 hnz
        go_wp2_with fail
        refine (put_any (B + 1) w.heap.size C E T' k (H k) wr HL2.out HE.out (by omega) hC2 (by omega) hHk HS3.out.cells.2.1 HR2.out (by rw [HF2.out.count]; omega)).mono ?_
        rintro e3 wp ⟨rfl, p, hp, hw⟩
        have Sp : St B w0 wp (.slice hsa len cap) (.slice (some ⟨w.heap.size, 0, none⟩) C C) k (m + k) k := by rw [hw]; exact HS3.out.set_far (by omega) _
        have Rp : Row wp w.heap.size (T'.set p ((k : Int) + 1)) := by rw [hw]; exact HR2.out.set_self p _
        have HF3 := hid (full_put HF2.out hp)
        have HL3 : Hid ((T'.set p ((k : Int) + 1)).length = C) := by show _ = _; rw [List.length_set]; exact HL2.out
        obtain ⟨-, -, d2, -, -, -⟩ := Sp.cells
        obtain ⟨-, d3, -, -⟩ := Sp.free
        have Sq := Sp.set_len (k + 1)
        rw [show ((k + 1 : Nat) : Int) = (k : Int) + 1 by omega] at Sq
        have HSq := hid Sq
        have HRq := hid (Rp.set_other (a := ⟨B + 1, 1, none⟩) (by show w.heap.size ≠ B + 1; omega) (.int .i64 ((k : Int) + 1)))
        clear hw Sp Rp Sq hp HS3 HR2 HF2 HL2
        go_wp2
        first | go_end0 | refine bodyPost_ret (results_none rfl _ _ _) rfl ?_
        exact ⟨rfl, w.heap.size, _, by omega, HL3.out, HF3.out, HSq.out, HRq.out⟩
  · go_enter Yba.func7, Yba.ntmps7
    go_wp2_with fail
    go_quiet (fail)
    clear w1 w2
    go_wp2_with (at_make; refine wpList_make_full _ rfl _ _ 24 rfl (B + 5) 21 i0 (.int .i32 0) 1 Yba.underlying24 hi hz0 hz1 .i64 .i64 _ _ C rfl rfl (by have := HC.out; omega) (by have := HC.out; omega) (by rw [hz2]; omega) (by unfold maxLen; omega) (by show B + 5 ≤ w.heap.size; omega) ?_)
    intro wa own gr
    have Sa := (HS.out.drew nq).grown gr
    have Ra : Row wa w.heap.size (List.replicate C 0) := made_row own
    have HAa : Hid (0 < c → ∃ g, ao = some ⟨g, 0, none⟩ ∧ B + 5 ≤ g ∧ g ≠ w.heap.size ∧ Row wa g T) := fun h0 => by
      obtain ⟨g, e1, e2, e3⟩ := HA.out h0
      exact ⟨g, e1, e2, by have := e3.lt; omega, (e3.drew nq).grown gr⟩
    obtain ⟨-, a1, a2, -, -, -⟩ := Sa.cells
    obtain ⟨a3, a4, -, -⟩ := Sa.free
    have Sb := Sa.set_slots (.slice (some ⟨w.heap.size, 0, none⟩) C C)
    have Rb := Ra.set_other (a := ⟨B + 1, 0, none⟩) (by show w.heap.size ≠ B + 1; omega) (.slice (some ⟨w.heap.size, 0, none⟩) C C)
    have HAb : Hid (0 < c → ∃ g, ao = some ⟨g, 0, none⟩ ∧ B + 5 ≤ g ∧ g ≠ w.heap.size ∧ Row (wa.setCell ⟨B + 1, 0, none⟩ (.slice (some ⟨w.heap.size, 0, none⟩) C C)) g T) := fun h0 => by
      obtain ⟨g, e1, e2, e3, e4⟩ := HAa.out h0
      exact ⟨g, e1, e2, e3, e4.set_other (by show g ≠ B + 1; omega) _⟩
    have HSb := hid Sb
    have HRb := hid Rb
    clear own gr Sa Ra HAa Sb Rb HS HA c1 c2 f1 f2
    go_wp2
    go_loopw [37] (fun ix wr => ∃ (j : Nat) (T' : List Int), j ≤ c ∧ ix = .int .i64 j ∧ Hid (St B w0 wr (.slice hsa len cap) (.slice (some ⟨w.heap.size, 0, none⟩) C C) k (m + nz (T.take j)) k) ∧ Hid (Row wr w.heap.size T') ∧ Hid (T'.length = C) ∧ Hid (Over H T j T') ∧ Hid (0 < c → ∃ g, ao = some ⟨g, 0, none⟩ ∧ B + 5 ≤ g ∧ g ≠ w.heap.size ∧ Row wr g T)) (fun ix _ => c - (intOf ix).toNat)
    case atStart => exact ⟨0, List.replicate C 0, Nat.zero_le _, rfl, HSb, HRb, List.length_replicate, over_start H T C, HAb⟩
    case round =>
      obtain ⟨j, T', hj, rfl, HS2, HR2, HL2, HO2, HA2⟩ := hrel
      clear HSb HRb HAb a1 a2 a3 a4
      have hnz : nz (T.take j) ≤ k := by have := nz_take_le T j; rw [HF.out.count] at this; exact this
      by_cases hjc : j < c
      · obtain ⟨g, rfl, hg5, hgne, hRg⟩ := HA2.out (by omega)
        have HRg := hid hRg
        have hcell := cell_row hRg j (by rw [HT.out]; exact hjc)
        have bj : (j : Int) < (c : Int) := by omega
        clear hRg
        by_cases hx : slotAt T j = 0
        · rw [hx] at hcell
          have HO3 := hid (over_skip HO2.out (by rw [HT.out]; exact hjc) hx)
          have HN : Hid (nz (T.take (j + 1)) = nz (T.take j)) := by show _ = _; rw [nz_take_succ T j (by rw [HT.out]; exact hjc), if_pos hx]; rfl
          clear hx
          go_wp2
          go_roundw
          case rel => exact ⟨j + 1, T', by omega, by go_num, by rw [HN.out]; exact HS2, HR2, HL2, HO3, HA2⟩
          case measure => simp [intOf]; omega
        · have hjT : j < T.length := by rw [HT.out]; exact hjc
          have hpos := HF.out.good.pos j hjT hx
          have htop := HF.out.top j hjT
          obtain ⟨n, hn⟩ : ∃ n : Nat, slotAt T j = (n : Int) + 1 := ⟨(slotAt T j - 1).toNat, by omega⟩
          have hnk : n < k := by omega
          rw [hn] at hcell
          have hne : ((n : Int) + 1 != 0) = true := by simp; omega
          obtain ⟨b, off, hsa', hbB, hch⟩ := HH.out.cell n (by omega)
          obtain ⟨d0, d1, d2, d3, d4, d5⟩ := HS2.out.cells
          obtain ⟨-, -, d6, -⟩ := HS2.out.free
          rw [hsa'] at d0
          have hch' : wr.cell? ⟨b, off + n, none⟩ = some (.int .u64 (H n)) := (HS2.out.below.cell (p := ⟨b, off + n, none⟩) hbB).trans hch
          have HN : Hid (nz (T.take (j + 1)) = nz (T.take j) + 1) := by show _ = _; rw [nz_take_succ T j hjT, if_neg hx]
          have HX := hid hn
          have hHn := HH.out.small n (by omega)
          clear hx hpos htop hn hch
          go_wp2_with fail
          refine (hash_any B b off len cap k (m + nz (T.take j)) n (H n) wr hbB hnk (by omega) hl (by omega) d3 d6 d5 d0 hch').mono ?_
          rintro e2 wh ⟨rfl, hw⟩
          have Sh : St B w0 wh (.slice hsa len cap) (.slice (some ⟨w.heap.size, 0, none⟩) C C) k (m + nz (T.take j) + 1) k := by
            have := HS2.out.set_calls (m + nz (T.take j) + 1)
            rw [show ((m + nz (T.take j) + 1 : Nat) : Int) = ((m + nz (T.take j) : Nat) : Int) + 1 by omega] at this
            rw [hw]; exact this
          have Rh : Row wh w.heap.size T' := by rw [hw]; exact HR2.out.set_other (by show w.heap.size ≠ B + 2; omega) _
          have Rgh : Row wh g T := by rw [hw]; exact HRg.out.set_other (by show g ≠ B + 2; omega) _
          have HSh := hid Sh
          have HRh := hid Rh
          have HRgh := hid Rgh
          clear hw Sh Rh Rgh HS2 HR2 HRg HA2 d0 d1 d2 d3 d4 d5 d6 hch' hcell
          go_wp2_with fail
          refine (put_any (B + 1) w.heap.size C E T' n (H n) wh HL2.out HE.out (by omega) hC2 (by omega) hHn HSh.out.cells.2.1 HRh.out (by rw [HO2.out.count]; omega)).mono ?_
          rintro e3 wp ⟨rfl, p, hp, hw⟩
          have Sp : St B w0 wp (.slice hsa len cap) (.slice (some ⟨w.heap.size, 0, none⟩) C C) k (m + nz (T.take j) + 1) k := by rw [hw]; exact HSh.out.set_far (by omega) _
          have Rp : Row wp w.heap.size (T'.set p ((n : Int) + 1)) := by rw [hw]; exact HRh.out.set_self p _
          have Rgp : Row wp g T := by rw [hw]; exact HRgh.out.set_other hgne _
          have HO3 := hid (over_put HF.out.good HO2.out hjT HX.out hp)
          have HL3 : Hid ((T'.set p ((n : Int) + 1)).length = C) := by show _ = _; rw [List.length_set]; exact HL2.out
          have HSp := hid Sp
          have HRp := hid Rp
          have HRgp := hid Rgp
          clear hw Sp Rp Rgp hp HSh HRh HRgh HO2 HL2
          go_wp2
          go_roundw
          case rel => exact ⟨j + 1, T'.set p ((n : Int) + 1), by omega, by go_num, by rw [HN.out, ← Nat.add_assoc]; exact HSp, HRp, HL3, HO3, fun _ => ⟨g, rfl, hg5, hgne, HRgp.out⟩⟩
          case measure => simp [intOf]; omega
      · have hjT : j = T.length := by rw [HT.out]; omega
        have HF2 : Hid (Full H T' k) := full_over HF.out (by rw [← hjT]; exact HO2.out)
        have S2 : St B w0 wr (.slice hsa len cap) (.slice (some ⟨w.heap.size, 0, none⟩) C C) k (m + k) k := by
          have := HS2.out
          rw [hjT, List.take_length, HF.out.count] at this
          exact this
        have HS3 := hid S2
        have hHk := HH.out.small k hkl
        clear S2 HS2 hjT HO2 HA2 hnz
        go_wp2_with fail
        refine (put_any (B + 1) w.heap.size C E T' k (H k) wr HL2.out HE.out (by omega) hC2 (by omega) hHk HS3.out.cells.2.1 HR2.out (by rw [HF2.out.count]; omega)).mono ?_
        rintro e3 wp ⟨rfl, p, hp, hw⟩
        have Sp : St B w0 wp (.slice hsa len cap) (.slice (some ⟨w.heap.size, 0, none⟩) C C) k (m + k) k := by rw [hw]; exact HS3.out.set_far (by omega) _
        have Rp : Row wp w.heap.size (T'.set p ((k : Int) + 1)) := by rw [hw]; exact HR2.out.set_self p _
        have HF3 := hid (full_put HF2.out hp)
        have HL3 : Hid ((T'.set p ((k : Int) + 1)).length = C) := by show _ = _; rw [List.length_set]; exact HL2.out
        obtain ⟨-, -, d2, -, -, -⟩ := Sp.cells
        obtain ⟨-, d3, -, -⟩ := Sp.free
        have Sq := Sp.set_len (k + 1)
        rw [show ((k + 1 : Nat) : Int) = (k : Int) + 1 by omega] at Sq
        have HSq := hid Sq
        have HRq := hid (Rp.set_other (a := ⟨B + 1, 1, none⟩) (by show w.heap.size ≠ B + 1; omega) (.int .i64 ((k : Int) + 1)))
        clear hw Sp Rp Sq hp HS3 HR2 HF2 HL2
        go_wp2
        first | go_end0 | refine bodyPost_ret (results_none rfl _ _ _) rfl ?_
        exact ⟨rfl, w.heap.size, _, by omega, HL3.out, HF3.out, HSq.out, HRq.out⟩
end Go.Proofs.Ybulkalsm
