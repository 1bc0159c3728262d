/-
  THE SHELF's CONTRACTS for (*strings.Builder).Grow at a fresh builder and (*strings.Builder).String, laid at this program in plain words (by the kit's lay-shelf.mjs and lay-plain.mjs; remarks struck).
-/
import Derived.Shelf.Strings.Builder1
import Derived.Shelf.Strings.Builder2
import Derived.Test.YbulkalsmProg
namespace Go.Proofs.Ybulkalsm
open Go.Shelf
def Yba.lays169_ren : Go.Shelf.Ren := ⟨fun | 169 => 17 | n => n, fun | 70 => 38 | 9 => 9 | 0 => 0 | 72 => 41 | 37 => 39 | 127 => 49 | 3 => 3 | 5 => 5 | n => n, fun | n => n⟩
theorem Yba.lays169 : Go.Proofs.Lays.n169 Yba.prog Yba.lays169_ren := {
  mixed := by kernel_rfl
  f169 := Yba.func17.trans (congrArg some (by kernel_rfl))
  t0 := Yba.underlying0
  a0 := Yba.isAgg0
  z0 := Yba.sizeOf0
  v0 := Yba.zeroValue0
  t3 := Yba.underlying3
  a3 := Yba.isAgg3
  z3 := Yba.sizeOf3
  v3 := Yba.zeroValue3
  t9 := Yba.underlying9
  a9 := Yba.isAgg9
  z9 := Yba.sizeOf9
  v9 := Yba.zeroValue9
  t37 := Yba.underlying39
  a37 := Yba.isAgg39
  z37 := Yba.sizeOf39
  v37 := Yba.zeroValue39
  t70 := Yba.underlying38
  a70 := Yba.isAgg38
  z70 := Yba.sizeOf38
  v70 := Yba.zeroValue38
  t72 := Yba.underlying41
  a72 := Yba.isAgg41
  z72 := Yba.sizeOf41
  v72 := Yba.zeroValue41
  t127 := Yba.underlying49
  a127 := Yba.isAgg49
  z127 := Yba.sizeOf49
  v127 := Yba.zeroValue49 }
theorem Yba.Builder_Extra_169 : Builder.Extra Yba.prog Yba.lays169_ren := {
  sizeBuilder := by kernel_rfl
  liesBuilder := by kernel_rfl
  t5 := Yba.underlying5
  a5 := Yba.isAgg5
  z5 := Yba.sizeOf5
  v5 := Yba.zeroValue5
  infoByte := by kernel_rfl
  cellsByte := by kernel_rfl
  sizeByte := by kernel_rfl
  neB5 := by decide }
open Go.RowKit in
theorem Yba.Builder_String (B b : Nat) (l : List UInt8) (w : World) (h : Lib.IsBuilder 41 5 B b (Lib.byteCells l) w) (h0 : l ≠ []) :
    Calls Yba.prog 17 #[.pointer (some ⟨b, 0, none⟩)] w fun e w' => e = .returned (.string ⟨l.toArray⟩) ∧ Below B w w' := Any.Builder_String Yba.lays169 Yba.Builder_Extra_169 B b l w h h0
open Go.RowKit in
theorem Yba.Builder_String_empty (B b : Nat) (w : World) (h : Lib.IsBuilder 41 5 B b [] w) (hBw : B ≤ w.heap.size) :
    Calls Yba.prog 17 #[.pointer (some ⟨b, 0, none⟩)] w fun e w' => e = .returned (.string ⟨#[]⟩) ∧ Below B w w' := Any.Builder_String_empty Yba.lays169 Yba.Builder_Extra_169 B b w h hBw
open Go.RowKit in
theorem Yba.Builder_String_any (B b : Nat) (l : List UInt8) (w : World) (h : Lib.IsBuilder 41 5 B b (Lib.byteCells l) w) (hBw : B ≤ w.heap.size) :
    Calls Yba.prog 17 #[.pointer (some ⟨b, 0, none⟩)] w fun e w' => e = .returned (.string ⟨l.toArray⟩) ∧ Below B w w' := Any.Builder_String_any Yba.lays169 Yba.Builder_Extra_169 B b l w h hBw
def Yba.lays241_ren : Go.Shelf.Ren := ⟨fun | 241 => 19 | 277 => 21 | n => n, fun | 70 => 38 | 3 => 3 | 0 => 0 | 72 => 41 | 37 => 39 | 5 => 5 | n => n, fun | n => n⟩
theorem Yba.lays241 : Go.Proofs.Lays.n241 Yba.prog Yba.lays241_ren := {
  mixed := by kernel_rfl
  f241 := Yba.func19.trans (congrArg some (by kernel_rfl))
  f277 := Yba.func21.trans (congrArg some (by kernel_rfl))
  t0 := Yba.underlying0
  a0 := Yba.isAgg0
  z0 := Yba.sizeOf0
  v0 := Yba.zeroValue0
  t3 := Yba.underlying3
  a3 := Yba.isAgg3
  z3 := Yba.sizeOf3
  v3 := Yba.zeroValue3
  t37 := Yba.underlying39
  a37 := Yba.isAgg39
  z37 := Yba.sizeOf39
  v37 := Yba.zeroValue39
  t70 := Yba.underlying38
  a70 := Yba.isAgg38
  z70 := Yba.sizeOf38
  v70 := Yba.zeroValue38
  t72 := Yba.underlying41
  a72 := Yba.isAgg41
  z72 := Yba.sizeOf41
  v72 := Yba.zeroValue41 }
theorem Yba.Builder_Extra_241 : Builder.Extra Yba.prog Yba.lays241_ren := {
  sizeBuilder := by kernel_rfl
  liesBuilder := by kernel_rfl
  t5 := Yba.underlying5
  a5 := Yba.isAgg5
  z5 := Yba.sizeOf5
  v5 := Yba.zeroValue5
  infoByte := by kernel_rfl
  cellsByte := by kernel_rfl
  sizeByte := by kernel_rfl
  neB5 := by decide }
open Go.RowKit in
theorem Yba.Builder_grow_fresh (B b n : Nat) (w : World) (hB : B ≤ b) (hbk : w.heap[b]? = some (.cells #[.pointer (some ⟨b, 0, none⟩), .slice none 0 0] 41 (0, 0))) (hBw : B ≤ w.heap.size) (hn : n ≤ 281474976710656) :
    Calls Yba.prog 19 #[.pointer (some ⟨b, 0, none⟩), .int .i64 n] w fun e w' => e = .returned (.tuple #[]) ∧ (Lib.BuilderAt 41 5 B b (.pointer (some ⟨b, 0, none⟩)) [] w' ∧ Below B w w') := Any.Builder_grow_fresh Yba.lays241 Yba.Builder_Extra_241 B b n w hB hbk hBw hn
def Yba.lays165_ren : Go.Shelf.Ren := ⟨fun | 165 => 14 | 240 => 18 | 241 => 19 | 276 => 20 | 277 => 21 | n => n, fun | 70 => 38 | 3 => 3 | 0 => 0 | 4 => 4 | 9 => 9 | 20 => 20 | 72 => 41 | 37 => 39 | 164 => 50 | 5 => 5 | n => n, fun | n => n⟩
theorem Yba.lays165 : Go.Proofs.Lays.n165 Yba.prog Yba.lays165_ren := {
  mixed := by kernel_rfl
  f165 := Yba.func14.trans (congrArg some (by kernel_rfl))
  f240 := Yba.func18.trans (congrArg some (by kernel_rfl))
  f241 := Yba.func19.trans (congrArg some (by kernel_rfl))
  f276 := Yba.func20.trans (congrArg some (by kernel_rfl))
  f277 := Yba.func21.trans (congrArg some (by kernel_rfl))
  t0 := Yba.underlying0
  a0 := Yba.isAgg0
  z0 := Yba.sizeOf0
  v0 := Yba.zeroValue0
  t3 := Yba.underlying3
  a3 := Yba.isAgg3
  z3 := Yba.sizeOf3
  v3 := Yba.zeroValue3
  t4 := Yba.underlying4
  a4 := Yba.isAgg4
  z4 := Yba.sizeOf4
  v4 := Yba.zeroValue4
  t9 := Yba.underlying9
  a9 := Yba.isAgg9
  z9 := Yba.sizeOf9
  v9 := Yba.zeroValue9
  t20 := Yba.underlying20
  a20 := Yba.isAgg20
  z20 := Yba.sizeOf20
  v20 := Yba.zeroValue20
  t37 := Yba.underlying39
  a37 := Yba.isAgg39
  z37 := Yba.sizeOf39
  v37 := Yba.zeroValue39
  t70 := Yba.underlying38
  a70 := Yba.isAgg38
  z70 := Yba.sizeOf38
  v70 := Yba.zeroValue38
  t72 := Yba.underlying41
  a72 := Yba.isAgg41
  z72 := Yba.sizeOf41
  v72 := Yba.zeroValue41
  t164 := Yba.underlying50
  a164 := Yba.isAgg50
  z164 := Yba.sizeOf50
  v164 := Yba.zeroValue50 }
theorem Yba.Builder_Extra_165 : Builder.Extra Yba.prog Yba.lays165_ren := {
  sizeBuilder := by kernel_rfl
  liesBuilder := by kernel_rfl
  t5 := Yba.underlying5
  a5 := Yba.isAgg5
  z5 := Yba.sizeOf5
  v5 := Yba.zeroValue5
  infoByte := by kernel_rfl
  cellsByte := by kernel_rfl
  sizeByte := by kernel_rfl
  neB5 := by decide }
open Go.RowKit in
theorem Yba.Builder_Grow_fresh (B b n : Nat) (w : World) (hB : B ≤ b) (hbk : w.heap[b]? = some (.cells #[.pointer none, .slice none 0 0] 41 (0, 0))) (hBw : B ≤ w.heap.size) (hn : n ≤ 281474976710656) :
    Calls Yba.prog 14 #[.pointer (some ⟨b, 0, none⟩), .int .i64 n] w fun e w' => e = .returned (.tuple #[]) ∧ (Lib.BuilderAt 41 5 B b (.pointer (some ⟨b, 0, none⟩)) [] w' ∧ Below B w w') := Any.Builder_Grow_fresh Yba.lays165 Yba.Builder_Extra_165 B b n w hB hbk hBw hn
end Go.Proofs.Ybulkalsm
