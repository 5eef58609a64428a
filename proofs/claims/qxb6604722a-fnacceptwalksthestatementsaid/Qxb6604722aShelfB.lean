import Derived.Test.Qxb6604722aShelf
namespace Go.Proofs
open Go.Shelf
def Try.lays240_ren : Go.Shelf.Ren := ⟨fun | 166 => 28 | 167 => 29 | 240 => 37 | 276 => 50 | n => n, fun | 0 => 0 | 3 => 3 | 4 => 4 | 5 => 5 | 9 => 9 | 20 => 20 | 37 => 52 | 70 => 60 | 72 => 62 | 75 => 65 | 80 => 69 | 164 => 79 | n => n, fun | n => n⟩
theorem Try.lays240 : Go.Proofs.Lays.n240 Try.prog Try.lays240_ren := {
  mixed := by kernel_rfl
  f240 := Try.func37.trans (congrArg some (by kernel_rfl))
  f276 := Try.func50.trans (congrArg some (by kernel_rfl))
  t0 := Try.underlying0
  a0 := Try.isAgg0
  z0 := Try.sizeOf0
  v0 := Try.zeroValue0
  t4 := Try.underlying4
  a4 := Try.isAgg4
  z4 := Try.sizeOf4
  v4 := Try.zeroValue4
  t9 := Try.underlying9
  a9 := Try.isAgg9
  z9 := Try.sizeOf9
  v9 := Try.zeroValue9
  t20 := Try.underlying20
  a20 := Try.isAgg20
  z20 := Try.sizeOf20
  v20 := Try.zeroValue20
  t70 := Try.underlying60
  a70 := Try.isAgg60
  z70 := Try.sizeOf60
  v70 := Try.zeroValue60
  t72 := Try.underlying62
  a72 := Try.isAgg62
  z72 := Try.sizeOf62
  v72 := Try.zeroValue62
  t164 := Try.underlying79
  a164 := Try.isAgg79
  z164 := Try.sizeOf79
  v164 := Try.zeroValue79
}
def Try.lays166_ren : Go.Shelf.Ren := ⟨fun | 166 => 28 | 167 => 29 | 240 => 37 | 276 => 50 | n => n, fun | 0 => 0 | 3 => 3 | 4 => 4 | 5 => 5 | 9 => 9 | 20 => 20 | 37 => 52 | 70 => 60 | 72 => 62 | 75 => 65 | 80 => 69 | 164 => 79 | n => n, fun | n => n⟩
theorem Try.lays166 : Go.Proofs.Lays.n166 Try.prog Try.lays166_ren := {
  mixed := by kernel_rfl
  f166 := Try.func28.trans (congrArg some (by kernel_rfl))
  f240 := Try.func37.trans (congrArg some (by kernel_rfl))
  f276 := Try.func50.trans (congrArg some (by kernel_rfl))
  t0 := Try.underlying0
  a0 := Try.isAgg0
  z0 := Try.sizeOf0
  v0 := Try.zeroValue0
  t3 := Try.underlying3
  a3 := Try.isAgg3
  z3 := Try.sizeOf3
  v3 := Try.zeroValue3
  t4 := Try.underlying4
  a4 := Try.isAgg4
  z4 := Try.sizeOf4
  v4 := Try.zeroValue4
  t9 := Try.underlying9
  a9 := Try.isAgg9
  z9 := Try.sizeOf9
  v9 := Try.zeroValue9
  t20 := Try.underlying20
  a20 := Try.isAgg20
  z20 := Try.sizeOf20
  v20 := Try.zeroValue20
  t37 := Try.underlying52
  a37 := Try.isAgg52
  z37 := Try.sizeOf52
  v37 := Try.zeroValue52
  t70 := Try.underlying60
  a70 := Try.isAgg60
  z70 := Try.sizeOf60
  v70 := Try.zeroValue60
  t72 := Try.underlying62
  a72 := Try.isAgg62
  z72 := Try.sizeOf62
  v72 := Try.zeroValue62
  t75 := Try.underlying65
  a75 := Try.isAgg65
  z75 := Try.sizeOf65
  v75 := Try.zeroValue65
  t164 := Try.underlying79
  a164 := Try.isAgg79
  z164 := Try.sizeOf79
  v164 := Try.zeroValue79
}
theorem Try.Builder_Extra_166 : Builder.Extra Try.prog Try.lays166_ren := {
  sizeBuilder := by kernel_rfl
  liesBuilder := by kernel_rfl
  t5 := Try.underlying5
  a5 := Try.isAgg5
  z5 := Try.sizeOf5
  v5 := Try.zeroValue5
  infoByte := by kernel_rfl
  cellsByte := by kernel_rfl
  sizeByte := by kernel_rfl
  neB5 := by decide }
def Try.lays167_ren : Go.Shelf.Ren := ⟨fun | 166 => 28 | 167 => 29 | 240 => 37 | 276 => 50 | n => n, fun | 0 => 0 | 3 => 3 | 4 => 4 | 5 => 5 | 9 => 9 | 20 => 20 | 37 => 52 | 70 => 60 | 72 => 62 | 75 => 65 | 80 => 69 | 164 => 79 | n => n, fun | n => n⟩
theorem Try.lays167 : Go.Proofs.Lays.n167 Try.prog Try.lays167_ren := {
  mixed := by kernel_rfl
  f167 := Try.func29.trans (congrArg some (by kernel_rfl))
  f240 := Try.func37.trans (congrArg some (by kernel_rfl))
  f276 := Try.func50.trans (congrArg some (by kernel_rfl))
  t0 := Try.underlying0
  a0 := Try.isAgg0
  z0 := Try.sizeOf0
  v0 := Try.zeroValue0
  t4 := Try.underlying4
  a4 := Try.isAgg4
  z4 := Try.sizeOf4
  v4 := Try.zeroValue4
  t5 := Try.underlying5
  a5 := Try.isAgg5
  z5 := Try.sizeOf5
  v5 := Try.zeroValue5
  t9 := Try.underlying9
  a9 := Try.isAgg9
  z9 := Try.sizeOf9
  v9 := Try.zeroValue9
  t20 := Try.underlying20
  a20 := Try.isAgg20
  z20 := Try.sizeOf20
  v20 := Try.zeroValue20
  t37 := Try.underlying52
  a37 := Try.isAgg52
  z37 := Try.sizeOf52
  v37 := Try.zeroValue52
  t70 := Try.underlying60
  a70 := Try.isAgg60
  z70 := Try.sizeOf60
  v70 := Try.zeroValue60
  t72 := Try.underlying62
  a72 := Try.isAgg62
  z72 := Try.sizeOf62
  v72 := Try.zeroValue62
  t75 := Try.underlying65
  a75 := Try.isAgg65
  z75 := Try.sizeOf65
  v75 := Try.zeroValue65
  t164 := Try.underlying79
  a164 := Try.isAgg79
  z164 := Try.sizeOf79
  v164 := Try.zeroValue79
}
theorem Try.Builder_Extra_167 : Builder.Extra Try.prog Try.lays167_ren := {
  sizeBuilder := by kernel_rfl
  liesBuilder := by kernel_rfl
  t5 := Try.underlying5
  a5 := Try.isAgg5
  z5 := Try.sizeOf5
  v5 := Try.zeroValue5
  infoByte := by kernel_rfl
  cellsByte := by kernel_rfl
  sizeByte := by kernel_rfl
  neB5 := by decide }

theorem Try.Builder_WriteByte (B b : Nat) (bs : List Value) (c : Int) (w : World) (h : Lib.IsBuilder 62 5 B b bs w) (hlen : bs.length + 1 ≤ 140737488355328) (hBw : B ≤ w.heap.size) :
    Calls Try.prog 29 #[.pointer (some ⟨b, 0, none⟩), .int .u8 c] w fun e w' => e = .returned .nilIface ∧ (Lib.BuilderAt 62 5 B b (.pointer (some ⟨b, 0, none⟩)) (bs ++ [.int .u8 c]) w' ∧ Go.RowKit.Below B w w') :=
  Any.Builder_WriteByte Try.lays167 Try.Builder_Extra_167 B b bs c w h hlen hBw
theorem Try.Builder_WriteString (B b : Nat) (bs : List Value) (s : ByteArray) (w : World) (h : Lib.IsBuilder 62 5 B b bs w) (hlen : bs.length + s.size ≤ 140737488355328) (hBw : B ≤ w.heap.size) :
    Calls Try.prog 28 #[.pointer (some ⟨b, 0, none⟩), .string s] w fun e w' => e = .returned (.tuple #[.int .i64 s.size, .nilIface]) ∧ (Lib.BuilderAt 62 5 B b (.pointer (some ⟨b, 0, none⟩)) (bs ++ Lib.byteCells s.data.toList) w' ∧ Go.RowKit.Below B w w') :=
  Any.Builder_WriteString Try.lays166 Try.Builder_Extra_166 B b bs s w h hlen hBw
end Go.Proofs
