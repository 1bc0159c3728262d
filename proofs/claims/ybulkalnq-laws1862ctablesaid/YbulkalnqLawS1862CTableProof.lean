/-
  THE PROOF OF 'Rows.LawS1862CTableSaid'. The frame is the guide's (howto/shells/), its two arguments opened as structs of eleven cells.
-/
import Derived.Test.YbulkalnqCTable
import Derived.ProofKit
import Derived.OpenShut
import Derived.ShutString
import Derived.ChangeOld
import Derived.Below
namespace Go.Proofs.Ybulkalnq.lawS1862CTable
open Go.ChangeShapes Go.WideShapes Go.ChangeAt Go.RowKit
set_option linter.unusedVariables false

theorem own : ownKnob Yba.prog.godebug = none := by kernel_rfl
theorem laidOut : laidOutB Yba.prog = true := by kernel_rfl
theorem cells39 : Yba.prog.cellsOf 39 = 11 := by kernel_rfl
theorem cells37 : Yba.prog.cellsOf 37 = 4 := by kernel_rfl
theorem cells2 : Yba.prog.cellsOf 2 = 1 := by kernel_rfl
theorem cells5 : Yba.prog.cellsOf 5 = 1 := by kernel_rfl
theorem cells24 : Yba.prog.cellsOf 24 = 1 := by kernel_rfl
theorem cells9 : Yba.prog.cellsOf 9 = 1 := by kernel_rfl

theorem list11 {α : Type} {l : List α} (h : l.length = 11) : ∃ c0 c1 c2 c3 c4 c5 c6 c7 c8 c9 c10, l = [c0, c1, c2, c3, c4, c5, c6, c7, c8, c9, c10] := by
  match l, h with
  | [c0, c1, c2, c3, c4, c5, c6, c7, c8, c9, c10], _ => exact ⟨c0, c1, c2, c3, c4, c5, c6, c7, c8, c9, c10, rfl⟩

section
variable {H : Type} {enc : TypeId × Value → H} {w : World} {base : Nat} {spare : Nat → Bool} {held : Bool}

theorem trod_float {t : TypeId} {k : FloatKind} {fuel : Nat} {c : Value} {x : DataW H × List MemPlace} (ht : Yba.prog.underlying t = some (.float k)) (h : DataW.trod enc Yba.prog w base spare held fuel t [c] = some x) : ∃ b, c = .float k b := by
  cases fuel with
  | zero => simp [DataW.trod] at h
  | succ n =>
    unfold DataW.trod at h
    rw [ht] at h
    split at h <;> simp_all

theorem u8_bounds {k : Int} (h : (Lit.int .u8 k).wf = true) : 0 ≤ k ∧ k ≤ 255 := by
  simp [Lit.wf, IntKind.min, IntKind.max, IntKind.signed, IntKind.bits] at h
  exact ⟨by omega, by omega⟩

theorem list4 {α : Type} {l : List α} (h : l.length = 4) : ∃ c0 c1 c2 c3, l = [c0, c1, c2, c3] := by
  match l, h with
  | [c0, c1, c2, c3], _ => exact ⟨c0, c1, c2, c3, rfl⟩
theorem list5 {α : Type} {l : List α} (h : l.length = 5) : ∃ c0 c1 c2 c3 c4, l = [c0, c1, c2, c3, c4] := by
  match l, h with
  | [c0, c1, c2, c3, c4], _ => exact ⟨c0, c1, c2, c3, c4, rfl⟩

theorem open_val {n : Nat} {c0 c1 c2 c3 : Value} {y : DataW H × List MemPlace} (h : DataW.trod enc Yba.prog w base spare held n 37 [c0, c1, c2, c3] = some y) :
    ∃ (k i : Int) (f : Nat) (s : ByteArray), c0 = .int .u8 k ∧ c1 = .int .i64 i ∧ c2 = .float .f64 f ∧ c3 = .string s ∧ 0 ≤ k ∧ k ≤ 255 := by
  obtain ⟨xs, m, _, _, _, hlen, hf⟩ := DataW.trod_struct Yba.underlying37 h
  obtain ⟨y0, y1, y2, y3, rfl⟩ := list4 hlen
  have g0 := hf 0 _ rfl
  have g1 := hf 1 _ rfl
  have g2 := hf 2 _ rfl
  have g3 := hf 3 _ rfl
  simp [cells2, cells5, cells24, cells9] at g0 g1 g2 g3
  obtain ⟨k, e0, _, wk⟩ := DataW.trod_int Yba.underlying5 g0
  obtain ⟨i, e1, _, _⟩ := DataW.trod_int Yba.underlying2 g1
  obtain ⟨f, e2⟩ := trod_float Yba.underlying24 g2
  obtain ⟨s, e3, _, _⟩ := DataW.trod_string Yba.underlying9 g3
  simp at e0 e1 e3
  exact ⟨k, i, f, s, e0, e1, e2, e3, u8_bounds wk⟩

theorem open_par {r : Reach} {b0 : Nat} {v : Value} {d : DataW H} {p : List MemPlace} (hv : Value.okWide Yba.prog w r b0 39 v) (h : DataW.Trod enc Yba.prog w base spare held 39 v d p) :
    ∃ (r d h k1 i1 : Int) (f1 : Nat) (s1 : ByteArray) (k2 i2 : Int) (f2 : Nat) (s2 : ByteArray), v = .agg (parV r d h k1 i1 f1 s1 k2 i2 f2 s2) ∧ 0 ≤ k1 ∧ k1 ≤ 255 ∧ 0 ≤ k2 ∧ k2 ≤ 255 := by
  obtain ⟨cs, rfl, hsz⟩ := okWide_struct Yba.underlying39 hv
  obtain ⟨l⟩ := cs
  obtain ⟨c0, c1, c2, c3, c4, c5, c6, c7, c8, c9, c10, rfl⟩ := list11 (l := l) (by simpa [cells39] using hsz)
  obtain ⟨fuel, hf0⟩ := h
  simp only [Value.cells] at hf0
  obtain ⟨xs, m, _, _, _, hlen, hf⟩ := DataW.trod_struct Yba.underlying39 hf0
  obtain ⟨y0, y1, y2, y3, y4, rfl⟩ := list5 hlen
  have g0 := hf 0 _ rfl
  have g1 := hf 1 _ rfl
  have g2 := hf 2 _ rfl
  have g3 := hf 3 _ rfl
  have g4 := hf 4 _ rfl
  simp [cells2, cells37] at g0 g1 g2 g3 g4
  obtain ⟨r, e0, _, _⟩ := DataW.trod_int Yba.underlying2 g0
  obtain ⟨d, e1, _, _⟩ := DataW.trod_int Yba.underlying2 g1
  obtain ⟨h, e2, _, _⟩ := DataW.trod_int Yba.underlying2 g2
  obtain ⟨k1, i1, f1, s1, rfl, rfl, rfl, rfl, a1, b1⟩ := open_val g3
  obtain ⟨k2, i2, f2, s2, rfl, rfl, rfl, rfl, a2, b2⟩ := open_val g4
  simp at e0 e1 e2
  subst e0 e1 e2
  exact ⟨r, d, h, k1, i1, f1, s1, k2, i2, f2, s2, rfl, a1, b1, a2, b2⟩
end

set_option maxRecDepth 100000 in
theorem lifted (os : Os) (started : os.Started) (H : Type) (enc : TypeId × Value → H) :
    ReturnsInHanded {} Yba.checked os 5 .any (Rows.lawS1862CTableSpec.pre6 enc Yba.prog Yba.f5 Rows.lawS1862CTableRow.domain false) (Rows.lawS1862CTableSpec.post enc Yba.prog Yba.f5 false true false false) := by
  refine returnsInHanded_of_change (C := Yba.checked) own started (by kernel_rfl) Yba.func5
    (ChangeSpec.witness6 (enc := enc) (C := Yba.checked) false ⟨#[], #[.agg #[.int .i64 0, .int .i64 0, .int .i64 0, .int .u8 0, .int .i64 0, .float .f64 0, .string ByteArray.empty, .int .u8 0, .int .i64 0, .float .f64 0, .string ByteArray.empty], .agg #[.int .i64 0, .int .i64 0, .int .i64 0, .int .u8 0, .int .i64 0, .float .f64 0, .string ByteArray.empty, .int .u8 0, .int .i64 0, .float .f64 0, .string ByteArray.empty]], []⟩ 8 (by kernel_rfl) (by kernel_rfl) (by kernel_rfl) (by kernel_rfl)) ?_
  intro W base args ds gs before hval0 hW hcnd _
  have hval : ∀ (j : Nat) t v, Yba.f5.params[j]? = some t → args[j]? = some v → Value.okWide Yba.prog W .any base t v := hval0
  have hW' := hW
  obtain ⟨p, q, hA0, hV, rfl, hfz, hnd⟩ := hW
  have hA : DataW.TrodAll enc Yba.prog W 0 (fun _ => true) true Yba.f5.params.toList args.toList ds p := hA0
  rw [Yba.params5] at hA hval
  obtain ⟨v0, vs0, d0, ds0, p0, q0, hargs, rfl, rfl, h0, r0⟩ := trodAll_cons hA
  obtain ⟨v1, vs1, d1, ds1, p1, q1, rfl, rfl, rfl, h1, r1⟩ := trodAll_cons r0
  obtain ⟨rfl, rfl, rfl⟩ := trodAll_nil r1
  obtain rfl : args = #[v0, v1] := by cases args; simp_all
  obtain ⟨rfl, rfl⟩ := trodVars_none hV
  have k0 := h0
  have k1 := h1
  have lt0 : ∀ x ∈ p0, x.block < W.heap.size := by obtain ⟨m, hm⟩ := k0; exact DataW.trod_lt m _ _ _ hm
  have lt1 : ∀ x ∈ p1, x.block < W.heap.size := by obtain ⟨m, hm⟩ := k1; exact DataW.trod_lt m _ _ _ hm
  obtain ⟨ar, ad, ah, ak1, ai1, af1, as1, ak2, ai2, af2, as2, rfl, x1, x2, x3, x4⟩ := open_par (hval 0 39 v0 rfl rfl) h0
  obtain ⟨br, bd, bh, bk1, bi1, bf1, bs1, bk2, bi2, bf2, bs2, rfl, z1, z2, z3, z4⟩ := open_par (hval 1 39 v1 rfl rfl) h1
  clear hA0 hval0
  refine (table_any ar ad ah ak1 ai1 af1 as1 ak2 ai2 af2 as2 br bd bh bk1 bi1 bf1 bs1 bk2 bi2 bf2 bs2 W x1 x2 x3 x4 z1 z2 z3 z4).mono fun e W' ⟨he, bel⟩ => ?_
  subst he
  exact ⟨_, rfl, _, _, _, [], _, [], hW', trodAll_mk1 (shut_bool Yba.underlying4 _), (trodAll_cons_mk (Below.trod laidOut (by kernel_rfl) (of_decide_eq_true (by kernel_rfl)) k0 bel lt0) (trodAll_cons_mk (Below.trod laidOut (by kernel_rfl) (of_decide_eq_true (by kernel_rfl)) k1 bel lt1) trodAll_mk0)), rfl, bel.frame _, fun h => by cases h⟩

theorem over : Rows.lawS1862CTableRow.holds Yba.pinned (OpenSpec.ofChange Rows.lawS1862CTableSpec) :=
  OpenClaim.holds_of_wide 5 Yba.f5 rfl rfl rfl rfl rfl rfl rfl ⟨rfl, rfl, rfl, rfl, rfl⟩ rfl rfl rfl rfl rfl (by kernel_rfl) Yba.func5 (by kernel_rfl)
    (of_decide_eq_true (by kernel_rfl)) (by unfold Func.isWrapper; first | (rw [if_pos (by decide +kernel)]; kernel_rfl) | (rw [if_neg (by decide +kernel)]; exact ⟨rfl, rfl⟩))
    (fun os started H enc _ => lifted os started H enc)

/-- THE STATEMENT -/
theorem proved : Rows.LawS1862CTableSaid := over
#print axioms proved
end Go.Proofs.Ybulkalnq.lawS1862CTable
