import Derived.Shelf.Strings.BuilderK
import Derived.Test.Qxb6601306aChecked
namespace Go.Proofs
open Go.Shelf
def Try.lays166_ren : Go.Shelf.Ren := ⟨fun | 166 => 37 | 169 => 38 | 240 => 42 | 276 => 45 | n => n, fun | 0 => 0 | 3 => 3 | 4 => 4 | 5 => 5 | 9 => 9 | 20 => 20 | 37 => 40 | 70 => 43 | 72 => 45 | 75 => 47 | 80 => 50 | 127 => 52 | 164 => 53 | n => n, fun | n => n⟩
theorem Try.lays166 : Go.Proofs.Lays.n166 Try.prog Try.lays166_ren := {
  mixed := by kernel_rfl
  f166 := Try.func37.trans (congrArg some (by kernel_rfl))
  f240 := Try.func42.trans (congrArg some (by kernel_rfl))
  f276 := Try.func45.trans (congrArg some (by kernel_rfl))
  t0 := Try.underlying0
  a0 := Try.isAgg0
  z0 := Try.sizeOf0
  v0 := Try.zeroValue0
  t3 := Try.underlying3
  a3 := Try.isAgg3
  z3 := Try.sizeOf3
  v3 := Try.zeroValue3
  t4 := Try.underlying4
  a4 := Try.isAgg4
  z4 := Try.sizeOf4
  v4 := Try.zeroValue4
  t9 := Try.underlying9
  a9 := Try.isAgg9
  z9 := Try.sizeOf9
  v9 := Try.zeroValue9
  t20 := Try.underlying20
  a20 := Try.isAgg20
  z20 := Try.sizeOf20
  v20 := Try.zeroValue20
  t37 := Try.underlying40
  a37 := Try.isAgg40
  z37 := Try.sizeOf40
  v37 := Try.zeroValue40
  t70 := Try.underlying43
  a70 := Try.isAgg43
  z70 := Try.sizeOf43
  v70 := Try.zeroValue43
  t72 := Try.underlying45
  a72 := Try.isAgg45
  z72 := Try.sizeOf45
  v72 := Try.zeroValue45
  t75 := Try.underlying47
  a75 := Try.isAgg47
  z75 := Try.sizeOf47
  v75 := Try.zeroValue47
  t164 := Try.underlying53
  a164 := Try.isAgg53
  z164 := Try.sizeOf53
  v164 := Try.zeroValue53 }
theorem Try.Builder_Extra_166 : Builder.Extra Try.prog Try.lays166_ren := {
  sizeBuilder := by kernel_rfl
  liesBuilder := by kernel_rfl
  t5 := Try.underlying5
  a5 := Try.isAgg5
  z5 := Try.sizeOf5
  v5 := Try.zeroValue5
  infoByte := by kernel_rfl
  cellsByte := by kernel_rfl
  sizeByte := by kernel_rfl
  neB5 := by decide }
def Try.lays169_ren : Go.Shelf.Ren := ⟨fun | 166 => 37 | 169 => 38 | 240 => 42 | 276 => 45 | n => n, fun | 0 => 0 | 3 => 3 | 4 => 4 | 5 => 5 | 9 => 9 | 20 => 20 | 37 => 40 | 70 => 43 | 72 => 45 | 75 => 47 | 80 => 50 | 127 => 52 | 164 => 53 | n => n, fun | n => n⟩
theorem Try.lays169 : Go.Proofs.Lays.n169 Try.prog Try.lays169_ren := {
  mixed := by kernel_rfl
  f169 := Try.func38.trans (congrArg some (by kernel_rfl))
  t0 := Try.underlying0
  a0 := Try.isAgg0
  z0 := Try.sizeOf0
  v0 := Try.zeroValue0
  t3 := Try.underlying3
  a3 := Try.isAgg3
  z3 := Try.sizeOf3
  v3 := Try.zeroValue3
  t9 := Try.underlying9
  a9 := Try.isAgg9
  z9 := Try.sizeOf9
  v9 := Try.zeroValue9
  t37 := Try.underlying40
  a37 := Try.isAgg40
  z37 := Try.sizeOf40
  v37 := Try.zeroValue40
  t70 := Try.underlying43
  a70 := Try.isAgg43
  z70 := Try.sizeOf43
  v70 := Try.zeroValue43
  t72 := Try.underlying45
  a72 := Try.isAgg45
  z72 := Try.sizeOf45
  v72 := Try.zeroValue45
  t127 := Try.underlying52
  a127 := Try.isAgg52
  z127 := Try.sizeOf52
  v127 := Try.zeroValue52 }
theorem Try.Builder_Extra_169 : Builder.Extra Try.prog Try.lays169_ren := {
  sizeBuilder := by kernel_rfl
  liesBuilder := by kernel_rfl
  t5 := Try.underlying5
  a5 := Try.isAgg5
  z5 := Try.sizeOf5
  v5 := Try.zeroValue5
  infoByte := by kernel_rfl
  cellsByte := by kernel_rfl
  sizeByte := by kernel_rfl
  neB5 := by decide }
open Go.RowKit in
theorem Try.Builder_WriteString_k (B b : Nat) (bs : List Value) (s : ByteArray) (w : World) (h : Lib.IsBuilderF 45 5 B b bs w) (hlen : bs.length + s.size ≤ 140737488355328) (hBw : B ≤ w.heap.size) :
    Calls Try.prog 37 #[.pointer (some ⟨b, 0, none⟩), .string s] w fun e w' => e = .returned (.tuple #[.int .i64 s.size, .nilIface]) ∧ (Lib.BuilderAtF 45 5 B b (.pointer (some ⟨b, 0, none⟩)) (bs ++ Lib.strCells s) w' ∧ Below B w w' ∧ Lib.OthersKept 5 (some b) w w') := Any.Builder_WriteString_k Try.lays166 Try.Builder_Extra_166 B b bs s w h hlen hBw
open Go.RowKit in
theorem Try.Builder_String_any_k (B b : Nat) (l : List UInt8) (w : World) (h : Lib.IsBuilderF 45 5 B b (Lib.byteCells l) w) (hBw : B ≤ w.heap.size) :
    Calls Try.prog 38 #[.pointer (some ⟨b, 0, none⟩)] w fun e w' => e = .returned (.string ⟨l.toArray⟩) ∧ (Lib.IsBuilderF 45 5 B b (Lib.byteCells l) w' ∧ Below B w w' ∧ Lib.OthersKept 5 (some b) w w') := Any.Builder_String_any_k Try.lays169 Try.Builder_Extra_169 B b l w h hBw
end Go.Proofs
