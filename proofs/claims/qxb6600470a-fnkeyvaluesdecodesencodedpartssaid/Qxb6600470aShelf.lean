import Derived.Shelf.Strings.Builder1
import Derived.Shelf.Small.Strs
import Derived.Test.Qxb6600470aProg
namespace Go.Proofs
open Go.Shelf
def Try.lays169_ren : Go.Shelf.Ren := ⟨fun | 169 => 24 | n => n, fun | 70 => 47 | 9 => 9 | 0 => 0 | 72 => 49 | 37 => 25 | 127 => 57 | 3 => 3 | 5 => 5 | n => n, fun | n => n⟩
theorem Try.lays169 : Go.Proofs.Lays.n169 Try.prog Try.lays169_ren := {
  mixed := by kernel_rfl
  f169 := Try.func24.trans (congrArg some (by kernel_rfl))
  t0 := Try.underlying0
  a0 := Try.isAgg0
  z0 := Try.sizeOf0
  v0 := Try.zeroValue0
  t3 := Try.underlying3
  a3 := Try.isAgg3
  z3 := Try.sizeOf3
  v3 := Try.zeroValue3
  t9 := Try.underlying9
  a9 := Try.isAgg9
  z9 := Try.sizeOf9
  v9 := Try.zeroValue9
  t37 := Try.underlying25
  a37 := Try.isAgg25
  z37 := Try.sizeOf25
  v37 := Try.zeroValue25
  t70 := Try.underlying47
  a70 := Try.isAgg47
  z70 := Try.sizeOf47
  v70 := Try.zeroValue47
  t72 := Try.underlying49
  a72 := Try.isAgg49
  z72 := Try.sizeOf49
  v72 := Try.zeroValue49
  t127 := Try.underlying57
  a127 := Try.isAgg57
  z127 := Try.sizeOf57
  v127 := Try.zeroValue57 }
theorem Try.Builder_Extra_169 : Builder.Extra Try.prog Try.lays169_ren := {
  sizeBuilder := by kernel_rfl
  liesBuilder := by kernel_rfl
  t5 := Try.underlying5
  a5 := Try.isAgg5
  z5 := Try.sizeOf5
  v5 := Try.zeroValue5
  infoByte := by kernel_rfl
  cellsByte := by kernel_rfl
  sizeByte := by kernel_rfl
  neB5 := by decide }
open Go.RowKit in
theorem Try.Builder_String (B b : Nat) (l : List UInt8) (w : World) (h : Lib.IsBuilder 49 5 B b (Lib.byteCells l) w) (h0 : l ≠ []) :
    Calls Try.prog 24 #[.pointer (some ⟨b, 0, none⟩)] w fun e w' => e = .returned (.string ⟨l.toArray⟩) ∧ Below B w w' := Any.Builder_String Try.lays169 Try.Builder_Extra_169 B b l w h h0
open Go.RowKit in
theorem Try.Builder_String_empty (B b : Nat) (w : World) (h : Lib.IsBuilder 49 5 B b [] w) (hBw : B ≤ w.heap.size) :
    Calls Try.prog 24 #[.pointer (some ⟨b, 0, none⟩)] w fun e w' => e = .returned (.string ⟨#[]⟩) ∧ Below B w w' := Any.Builder_String_empty Try.lays169 Try.Builder_Extra_169 B b w h hBw
open Go.RowKit in
theorem Try.Builder_String_any (B b : Nat) (l : List UInt8) (w : World) (h : Lib.IsBuilder 49 5 B b (Lib.byteCells l) w) (hBw : B ≤ w.heap.size) :
    Calls Try.prog 24 #[.pointer (some ⟨b, 0, none⟩)] w fun e w' => e = .returned (.string ⟨l.toArray⟩) ∧ Below B w w' := Any.Builder_String_any Try.lays169 Try.Builder_Extra_169 B b l w h hBw
def Try.lays137_ren : Go.Shelf.Ren := ⟨fun | 137 => 21 | 217 => 25 | 266 => 27 | n => n, fun | 9 => 9 | 5 => 5 | 3 => 3 | n => n, fun | n => n⟩
theorem Try.lays137 : Go.Proofs.Lays.n137 Try.prog Try.lays137_ren := {
  mixed := by kernel_rfl
  f137 := Try.func21.trans (congrArg some (by kernel_rfl))
  f217 := Try.func25.trans (congrArg some (by kernel_rfl))
  f266 := Try.func27.trans (congrArg some (by kernel_rfl))
  t3 := Try.underlying3
  a3 := Try.isAgg3
  z3 := Try.sizeOf3
  v3 := Try.zeroValue3
  t5 := Try.underlying5
  a5 := Try.isAgg5
  z5 := Try.sizeOf5
  v5 := Try.zeroValue5
  t9 := Try.underlying9
  a9 := Try.isAgg9
  z9 := Try.sizeOf9
  v9 := Try.zeroValue9 }
open Go.RowKit in
theorem Try.strings_IndexByte (s : ByteArray) (c : Int) (w : World) :
    Calls Try.prog 21 #[.string s, .int .u8 c] w fun e w' => e = .returned (.int .i64 (Lib.indexByte s.data.toList c.toNat.toUInt8)) ∧ w' = w := Any.strings_IndexByte Try.lays137 s c w
def Try.lays167_ren : Go.Shelf.Ren := ⟨fun | 167 => 23 | 240 => 26 | 276 => 28 | n => n, fun | 0 => 0 | 3 => 3 | 4 => 4 | 5 => 5 | 9 => 9 | 20 => 20 | 37 => 25 | 70 => 47 | 72 => 49 | 75 => 52 | 80 => 56 | 164 => 58 | n => n, fun | n => n⟩
theorem Try.lays167 : Go.Proofs.Lays.n167 Try.prog Try.lays167_ren := {
  mixed := by kernel_rfl
  f167 := Try.func23.trans (congrArg some (by kernel_rfl))
  f240 := Try.func26.trans (congrArg some (by kernel_rfl))
  f276 := Try.func28.trans (congrArg some (by kernel_rfl))
  t0 := Try.underlying0
  a0 := Try.isAgg0
  z0 := Try.sizeOf0
  v0 := Try.zeroValue0
  t4 := Try.underlying4
  a4 := Try.isAgg4
  z4 := Try.sizeOf4
  v4 := Try.zeroValue4
  t5 := Try.underlying5
  a5 := Try.isAgg5
  z5 := Try.sizeOf5
  v5 := Try.zeroValue5
  t9 := Try.underlying9
  a9 := Try.isAgg9
  z9 := Try.sizeOf9
  v9 := Try.zeroValue9
  t20 := Try.underlying20
  a20 := Try.isAgg20
  z20 := Try.sizeOf20
  v20 := Try.zeroValue20
  t37 := Try.underlying25
  a37 := Try.isAgg25
  z37 := Try.sizeOf25
  v37 := Try.zeroValue25
  t70 := Try.underlying47
  a70 := Try.isAgg47
  z70 := Try.sizeOf47
  v70 := Try.zeroValue47
  t72 := Try.underlying49
  a72 := Try.isAgg49
  z72 := Try.sizeOf49
  v72 := Try.zeroValue49
  t75 := Try.underlying52
  a75 := Try.isAgg52
  z75 := Try.sizeOf52
  v75 := Try.zeroValue52
  t164 := Try.underlying58
  a164 := Try.isAgg58
  z164 := Try.sizeOf58
  v164 := Try.zeroValue58 }
theorem Try.Builder_Extra_167 : Builder.Extra Try.prog Try.lays167_ren := {
  sizeBuilder := by kernel_rfl
  liesBuilder := by kernel_rfl
  t5 := Try.underlying5
  a5 := Try.isAgg5
  z5 := Try.sizeOf5
  v5 := Try.zeroValue5
  infoByte := by kernel_rfl
  cellsByte := by kernel_rfl
  sizeByte := by kernel_rfl
  neB5 := by decide }
open Go.RowKit in
theorem Try.Builder_WriteByte (B b : Nat) (bs : List Value) (c : Int) (w : World) (h : Lib.IsBuilder 49 5 B b bs w) (hlen : bs.length + 1 ≤ 140737488355328) (hBw : B ≤ w.heap.size) :
    Calls Try.prog 23 #[.pointer (some ⟨b, 0, none⟩), .int .u8 c] w fun e w' => e = .returned .nilIface ∧ (Lib.BuilderAt 49 5 B b (.pointer (some ⟨b, 0, none⟩)) (bs ++ [.int .u8 c]) w' ∧ Below B w w') := Any.Builder_WriteByte Try.lays167 Try.Builder_Extra_167 B b bs c w h hlen hBw
def Try.lays166_ren : Go.Shelf.Ren := ⟨fun | 166 => 22 | 240 => 26 | 276 => 28 | n => n, fun | 0 => 0 | 3 => 3 | 4 => 4 | 5 => 5 | 9 => 9 | 20 => 20 | 37 => 25 | 70 => 47 | 72 => 49 | 75 => 52 | 80 => 56 | 164 => 58 | n => n, fun | n => n⟩
theorem Try.lays166 : Go.Proofs.Lays.n166 Try.prog Try.lays166_ren := {
  mixed := by kernel_rfl
  f166 := Try.func22.trans (congrArg some (by kernel_rfl))
  f240 := Try.func26.trans (congrArg some (by kernel_rfl))
  f276 := Try.func28.trans (congrArg some (by kernel_rfl))
  t0 := Try.underlying0
  a0 := Try.isAgg0
  z0 := Try.sizeOf0
  v0 := Try.zeroValue0
  t3 := Try.underlying3
  a3 := Try.isAgg3
  z3 := Try.sizeOf3
  v3 := Try.zeroValue3
  t4 := Try.underlying4
  a4 := Try.isAgg4
  z4 := Try.sizeOf4
  v4 := Try.zeroValue4
  t9 := Try.underlying9
  a9 := Try.isAgg9
  z9 := Try.sizeOf9
  v9 := Try.zeroValue9
  t20 := Try.underlying20
  a20 := Try.isAgg20
  z20 := Try.sizeOf20
  v20 := Try.zeroValue20
  t37 := Try.underlying25
  a37 := Try.isAgg25
  z37 := Try.sizeOf25
  v37 := Try.zeroValue25
  t70 := Try.underlying47
  a70 := Try.isAgg47
  z70 := Try.sizeOf47
  v70 := Try.zeroValue47
  t72 := Try.underlying49
  a72 := Try.isAgg49
  z72 := Try.sizeOf49
  v72 := Try.zeroValue49
  t75 := Try.underlying52
  a75 := Try.isAgg52
  z75 := Try.sizeOf52
  v75 := Try.zeroValue52
  t164 := Try.underlying58
  a164 := Try.isAgg58
  z164 := Try.sizeOf58
  v164 := Try.zeroValue58 }
theorem Try.Builder_Extra_166 : Builder.Extra Try.prog Try.lays166_ren := {
  sizeBuilder := by kernel_rfl
  liesBuilder := by kernel_rfl
  t5 := Try.underlying5
  a5 := Try.isAgg5
  z5 := Try.sizeOf5
  v5 := Try.zeroValue5
  infoByte := by kernel_rfl
  cellsByte := by kernel_rfl
  sizeByte := by kernel_rfl
  neB5 := by decide }
open Go.RowKit in
theorem Try.Builder_WriteString (B b : Nat) (bs : List Value) (s : ByteArray) (w : World) (h : Lib.IsBuilder 49 5 B b bs w) (hlen : bs.length + s.size ≤ 140737488355328) (hBw : B ≤ w.heap.size) :
    Calls Try.prog 22 #[.pointer (some ⟨b, 0, none⟩), .string s] w fun e w' => e = .returned (.tuple #[.int .i64 s.size, .nilIface]) ∧ (Lib.BuilderAt 49 5 B b (.pointer (some ⟨b, 0, none⟩)) (bs ++ Lib.strCells s) w' ∧ Below B w w') := Any.Builder_WriteString Try.lays166 Try.Builder_Extra_166 B b bs s w h hlen hBw
end Go.Proofs
