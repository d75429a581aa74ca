/-
  TWO LAYINGS OF THE SHELF's THAT THE ONE COMMAND DOES NOT FIND AT THIS DUMP ('the structure names a number which no body of the closure names'): the tables of numbers typed by hand: (*strings.Builder).WriteByte, WriteString.
-/
import Derived.Test.Qxb6001516aShelf
namespace Go.Proofs
open Go.Shelf Go.RowKit
def Try.lays167_ren : Go.Shelf.Ren := ⟨fun | 167 => 26 | 240 => 33 | 276 => 39 | n => n, fun | 0 => 0 | 3 => 3 | 4 => 4 | 5 => 5 | 9 => 9 | 20 => 20 | 37 => 27 | 70 => 44 | 72 => 46 | 75 => 49 | 80 => 53 | 164 => 58 | n => n, fun | n => n⟩
theorem Try.lays167 : Go.Proofs.Lays.n167 Try.prog Try.lays167_ren := {
  mixed := by kernel_rfl
  f167 := Try.func26.trans (congrArg some (by kernel_rfl))
  f240 := Try.func33.trans (congrArg some (by kernel_rfl))
  f276 := Try.func39.trans (congrArg some (by kernel_rfl))
  t0 := Try.underlying0
  a0 := Try.isAgg0
  z0 := Try.sizeOf0
  v0 := Try.zeroValue0
  t4 := Try.underlying4
  a4 := Try.isAgg4
  z4 := Try.sizeOf4
  v4 := Try.zeroValue4
  t5 := Try.underlying5
  a5 := Try.isAgg5
  z5 := Try.sizeOf5
  v5 := Try.zeroValue5
  t9 := Try.underlying9
  a9 := Try.isAgg9
  z9 := Try.sizeOf9
  v9 := Try.zeroValue9
  t20 := Try.underlying20
  a20 := Try.isAgg20
  z20 := Try.sizeOf20
  v20 := Try.zeroValue20
  t37 := Try.underlying27
  a37 := Try.isAgg27
  z37 := Try.sizeOf27
  v37 := Try.zeroValue27
  t70 := Try.underlying44
  a70 := Try.isAgg44
  z70 := Try.sizeOf44
  v70 := Try.zeroValue44
  t72 := Try.underlying46
  a72 := Try.isAgg46
  z72 := Try.sizeOf46
  v72 := Try.zeroValue46
  t75 := Try.underlying49
  a75 := Try.isAgg49
  z75 := Try.sizeOf49
  v75 := Try.zeroValue49
  t164 := Try.underlying58
  a164 := Try.isAgg58
  z164 := Try.sizeOf58
  v164 := Try.zeroValue58 }
theorem Try.Builder_Extra_167 : Builder.Extra Try.prog Try.lays167_ren := {
  sizeBuilder := by kernel_rfl
  liesBuilder := by kernel_rfl
  t5 := Try.underlying5
  a5 := Try.isAgg5
  z5 := Try.sizeOf5
  v5 := Try.zeroValue5
  infoByte := by kernel_rfl
  cellsByte := by kernel_rfl
  sizeByte := by kernel_rfl
  neB5 := by decide }
def Try.lays166_ren : Go.Shelf.Ren := ⟨fun | 166 => 27 | 240 => 33 | 276 => 39 | n => n, fun | 0 => 0 | 3 => 3 | 4 => 4 | 5 => 5 | 9 => 9 | 20 => 20 | 37 => 27 | 70 => 44 | 72 => 46 | 75 => 49 | 80 => 53 | 164 => 58 | n => n, fun | n => n⟩
theorem Try.lays166 : Go.Proofs.Lays.n166 Try.prog Try.lays166_ren := {
  mixed := by kernel_rfl
  f166 := Try.func27.trans (congrArg some (by kernel_rfl))
  f240 := Try.func33.trans (congrArg some (by kernel_rfl))
  f276 := Try.func39.trans (congrArg some (by kernel_rfl))
  t0 := Try.underlying0
  a0 := Try.isAgg0
  z0 := Try.sizeOf0
  v0 := Try.zeroValue0
  t3 := Try.underlying3
  a3 := Try.isAgg3
  z3 := Try.sizeOf3
  v3 := Try.zeroValue3
  t4 := Try.underlying4
  a4 := Try.isAgg4
  z4 := Try.sizeOf4
  v4 := Try.zeroValue4
  t9 := Try.underlying9
  a9 := Try.isAgg9
  z9 := Try.sizeOf9
  v9 := Try.zeroValue9
  t20 := Try.underlying20
  a20 := Try.isAgg20
  z20 := Try.sizeOf20
  v20 := Try.zeroValue20
  t37 := Try.underlying27
  a37 := Try.isAgg27
  z37 := Try.sizeOf27
  v37 := Try.zeroValue27
  t70 := Try.underlying44
  a70 := Try.isAgg44
  z70 := Try.sizeOf44
  v70 := Try.zeroValue44
  t72 := Try.underlying46
  a72 := Try.isAgg46
  z72 := Try.sizeOf46
  v72 := Try.zeroValue46
  t75 := Try.underlying49
  a75 := Try.isAgg49
  z75 := Try.sizeOf49
  v75 := Try.zeroValue49
  t164 := Try.underlying58
  a164 := Try.isAgg58
  z164 := Try.sizeOf58
  v164 := Try.zeroValue58 }
theorem Try.Builder_Extra_166 : Builder.Extra Try.prog Try.lays166_ren := {
  sizeBuilder := by kernel_rfl
  liesBuilder := by kernel_rfl
  t5 := Try.underlying5
  a5 := Try.isAgg5
  z5 := Try.sizeOf5
  v5 := Try.zeroValue5
  infoByte := by kernel_rfl
  cellsByte := by kernel_rfl
  sizeByte := by kernel_rfl
  neB5 := by decide }
theorem Try.Builder_WriteByte (B b : Nat) (bs : List Value) (c : Int) (w : World) (h : Lib.IsBuilder 46 5 B b bs w) (hlen : bs.length + 1 ≤ 140737488355328) (hBw : B ≤ w.heap.size) :
    Calls Try.prog 26 #[.pointer (some ⟨b, 0, none⟩), .int .u8 c] w fun e w' => e = .returned .nilIface ∧ (Lib.BuilderAt 46 5 B b (.pointer (some ⟨b, 0, none⟩)) (bs ++ [.int .u8 c]) w' ∧ Below B w w') := Any.Builder_WriteByte Try.lays167 Try.Builder_Extra_167 B b bs c w h hlen hBw
theorem Try.Builder_WriteString (B b : Nat) (bs : List Value) (s : ByteArray) (w : World) (h : Lib.IsBuilder 46 5 B b bs w) (hlen : bs.length + s.size ≤ 140737488355328) (hBw : B ≤ w.heap.size) :
    Calls Try.prog 27 #[.pointer (some ⟨b, 0, none⟩), .string s] w fun e w' => e = .returned (.tuple #[.int .i64 s.size, .nilIface]) ∧ (Lib.BuilderAt 46 5 B b (.pointer (some ⟨b, 0, none⟩)) (bs ++ Lib.strCells s) w' ∧ Below B w w') := Any.Builder_WriteString Try.lays166 Try.Builder_Extra_166 B b bs s w h hlen hBw
end Go.Proofs
