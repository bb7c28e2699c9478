import Derived.Shelf.Strings.BuilderK
import Derived.Shelf.Strings.Builder2Cap
import Derived.Test.Qxb6600183aChecked
namespace Go.Proofs
open Go.Shelf
def Try.lays170_ren : Go.Shelf.Ren := ⟨fun | 170 => 16 | n => n, fun | 70 => 23 | 3 => 3 | 0 => 0 | 72 => 39 | 37 => 37 | 5 => 5 | n => n, fun | n => n⟩
theorem Try.lays170 : Go.Proofs.Lays.n170 Try.prog Try.lays170_ren := {
  mixed := by kernel_rfl
  f170 := Try.func16.trans (congrArg some (by kernel_rfl))
  t0 := Try.underlying0
  a0 := Try.isAgg0
  z0 := Try.sizeOf0
  v0 := Try.zeroValue0
  t3 := Try.underlying3
  a3 := Try.isAgg3
  z3 := Try.sizeOf3
  v3 := Try.zeroValue3
  t37 := Try.underlying37
  a37 := Try.isAgg37
  z37 := Try.sizeOf37
  v37 := Try.zeroValue37
  t70 := Try.underlying23
  a70 := Try.isAgg23
  z70 := Try.sizeOf23
  v70 := Try.zeroValue23
  t72 := Try.underlying39
  a72 := Try.isAgg39
  z72 := Try.sizeOf39
  v72 := Try.zeroValue39 }
open Go.RowKit in
theorem Try.Builder_Len_f (B b : Nat) (bs : List Value) (w : World) (h : Lib.IsBuilderF 39 5 B b bs w) :
    Calls Try.prog 16 #[.pointer (some ⟨b, 0, none⟩)] w fun e w' => e = .returned (.int .i64 bs.length) ∧ w' = w := Any.Builder_Len_f Try.lays170 B b bs w h
def Try.lays169_ren : Go.Shelf.Ren := ⟨fun | 169 => 15 | n => n, fun | 70 => 23 | 9 => 9 | 0 => 0 | 72 => 39 | 37 => 37 | 127 => 45 | 3 => 3 | 5 => 5 | n => n, fun | n => n⟩
theorem Try.lays169 : Go.Proofs.Lays.n169 Try.prog Try.lays169_ren := {
  mixed := by kernel_rfl
  f169 := Try.func15.trans (congrArg some (by kernel_rfl))
  t0 := Try.underlying0
  a0 := Try.isAgg0
  z0 := Try.sizeOf0
  v0 := Try.zeroValue0
  t3 := Try.underlying3
  a3 := Try.isAgg3
  z3 := Try.sizeOf3
  v3 := Try.zeroValue3
  t9 := Try.underlying9
  a9 := Try.isAgg9
  z9 := Try.sizeOf9
  v9 := Try.zeroValue9
  t37 := Try.underlying37
  a37 := Try.isAgg37
  z37 := Try.sizeOf37
  v37 := Try.zeroValue37
  t70 := Try.underlying23
  a70 := Try.isAgg23
  z70 := Try.sizeOf23
  v70 := Try.zeroValue23
  t72 := Try.underlying39
  a72 := Try.isAgg39
  z72 := Try.sizeOf39
  v72 := Try.zeroValue39
  t127 := Try.underlying45
  a127 := Try.isAgg45
  z127 := Try.sizeOf45
  v127 := Try.zeroValue45 }
theorem Try.Builder_Extra_169 : Builder.Extra Try.prog Try.lays169_ren := {
  sizeBuilder := by kernel_rfl
  liesBuilder := by kernel_rfl
  t5 := Try.underlying5
  a5 := Try.isAgg5
  z5 := Try.sizeOf5
  v5 := Try.zeroValue5
  infoByte := by kernel_rfl
  cellsByte := by kernel_rfl
  sizeByte := by kernel_rfl
  neB5 := by decide }
open Go.RowKit in
theorem Try.Builder_String_k (B b : Nat) (l : List UInt8) (w : World) (h : Lib.IsBuilderF 39 5 B b (Lib.byteCells l) w) (h0 : l ≠ []) :
    Calls Try.prog 15 #[.pointer (some ⟨b, 0, none⟩)] w fun e w' => e = .returned (.string ⟨l.toArray⟩) ∧ (Lib.IsBuilderF 39 5 B b (Lib.byteCells l) w' ∧ Below B w w' ∧ Lib.OthersKept 5 (some b) w w') := Any.Builder_String_k Try.lays169 Try.Builder_Extra_169 B b l w h h0
open Go.RowKit in
theorem Try.Builder_String_any_k (B b : Nat) (l : List UInt8) (w : World) (h : Lib.IsBuilderF 39 5 B b (Lib.byteCells l) w) (hBw : B ≤ w.heap.size) :
    Calls Try.prog 15 #[.pointer (some ⟨b, 0, none⟩)] w fun e w' => e = .returned (.string ⟨l.toArray⟩) ∧ (Lib.IsBuilderF 39 5 B b (Lib.byteCells l) w' ∧ Below B w w' ∧ Lib.OthersKept 5 (some b) w w') := Any.Builder_String_any_k Try.lays169 Try.Builder_Extra_169 B b l w h hBw
def Try.lays165_ren : Go.Shelf.Ren := ⟨fun | 165 => 38 | 240 => 42 | 241 => 43 | 276 => 49 | 277 => 50 | n => n, fun | 70 => 23 | 3 => 3 | 0 => 0 | 4 => 4 | 9 => 9 | 20 => 20 | 72 => 39 | 37 => 37 | 164 => 63 | 5 => 5 | n => n, fun | n => n⟩
theorem Try.lays165 : Go.Proofs.Lays.n165 Try.prog Try.lays165_ren := {
  mixed := by kernel_rfl
  f165 := Try.func38.trans (congrArg some (by kernel_rfl))
  f240 := Try.func42.trans (congrArg some (by kernel_rfl))
  f241 := Try.func43.trans (congrArg some (by kernel_rfl))
  f276 := Try.func49.trans (congrArg some (by kernel_rfl))
  f277 := Try.func50.trans (congrArg some (by kernel_rfl))
  t0 := Try.underlying0
  a0 := Try.isAgg0
  z0 := Try.sizeOf0
  v0 := Try.zeroValue0
  t3 := Try.underlying3
  a3 := Try.isAgg3
  z3 := Try.sizeOf3
  v3 := Try.zeroValue3
  t4 := Try.underlying4
  a4 := Try.isAgg4
  z4 := Try.sizeOf4
  v4 := Try.zeroValue4
  t9 := Try.underlying9
  a9 := Try.isAgg9
  z9 := Try.sizeOf9
  v9 := Try.zeroValue9
  t20 := Try.underlying20
  a20 := Try.isAgg20
  z20 := Try.sizeOf20
  v20 := Try.zeroValue20
  t37 := Try.underlying37
  a37 := Try.isAgg37
  z37 := Try.sizeOf37
  v37 := Try.zeroValue37
  t70 := Try.underlying23
  a70 := Try.isAgg23
  z70 := Try.sizeOf23
  v70 := Try.zeroValue23
  t72 := Try.underlying39
  a72 := Try.isAgg39
  z72 := Try.sizeOf39
  v72 := Try.zeroValue39
  t164 := Try.underlying63
  a164 := Try.isAgg63
  z164 := Try.sizeOf63
  v164 := Try.zeroValue63 }
theorem Try.Builder_Extra_165 : Builder.Extra Try.prog Try.lays165_ren := {
  sizeBuilder := by kernel_rfl
  liesBuilder := by kernel_rfl
  t5 := Try.underlying5
  a5 := Try.isAgg5
  z5 := Try.sizeOf5
  v5 := Try.zeroValue5
  infoByte := by kernel_rfl
  cellsByte := by kernel_rfl
  sizeByte := by kernel_rfl
  neB5 := by decide }
open Go.RowKit in
theorem Try.Builder_Grow_fresh_cap (B b n : Nat) (w : World) (hB : B ≤ b) (hbk : w.heap[b]? = some (.cells #[.pointer none, .slice none 0 0] 39 (0, 0))) (hBw : B ≤ w.heap.size) (hn : n ≤ 281474976710656) :
    Calls Try.prog 38 #[.pointer (some ⟨b, 0, none⟩), .int .i64 n] w fun e w' => e = .returned (.tuple #[]) ∧ (Lib.BuilderAt 39 5 B b (.pointer (some ⟨b, 0, none⟩)) [] w' ∧ Below B w w') ∧ ∃ p cap, w'.cell? ⟨b, 1, none⟩ = some (.slice p 0 cap) ∧ n ≤ cap := Any.Builder_Grow_fresh_cap Try.lays165 Try.Builder_Extra_165 B b n w hB hbk hBw hn
def Try.lays167_ren : Go.Shelf.Ren := ⟨fun | 167 => 39 | 240 => 42 | 276 => 49 | n => n, fun | 70 => 23 | 5 => 5 | 75 => 52 | 72 => 39 | 37 => 37 | 0 => 0 | 4 => 4 | 164 => 63 | 9 => 9 | 20 => 20 | 80 => 29 | n => n, fun | n => n⟩
theorem Try.lays167 : Go.Proofs.Lays.n167 Try.prog Try.lays167_ren := {
  mixed := by kernel_rfl
  f167 := Try.func39.trans (congrArg some (by kernel_rfl))
  f240 := Try.func42.trans (congrArg some (by kernel_rfl))
  f276 := Try.func49.trans (congrArg some (by kernel_rfl))
  t0 := Try.underlying0
  a0 := Try.isAgg0
  z0 := Try.sizeOf0
  v0 := Try.zeroValue0
  t4 := Try.underlying4
  a4 := Try.isAgg4
  z4 := Try.sizeOf4
  v4 := Try.zeroValue4
  t5 := Try.underlying5
  a5 := Try.isAgg5
  z5 := Try.sizeOf5
  v5 := Try.zeroValue5
  t9 := Try.underlying9
  a9 := Try.isAgg9
  z9 := Try.sizeOf9
  v9 := Try.zeroValue9
  t20 := Try.underlying20
  a20 := Try.isAgg20
  z20 := Try.sizeOf20
  v20 := Try.zeroValue20
  t37 := Try.underlying37
  a37 := Try.isAgg37
  z37 := Try.sizeOf37
  v37 := Try.zeroValue37
  t70 := Try.underlying23
  a70 := Try.isAgg23
  z70 := Try.sizeOf23
  v70 := Try.zeroValue23
  t72 := Try.underlying39
  a72 := Try.isAgg39
  z72 := Try.sizeOf39
  v72 := Try.zeroValue39
  t75 := Try.underlying52
  a75 := Try.isAgg52
  z75 := Try.sizeOf52
  v75 := Try.zeroValue52
  t164 := Try.underlying63
  a164 := Try.isAgg63
  z164 := Try.sizeOf63
  v164 := Try.zeroValue63 }
theorem Try.Builder_Extra_167 : Builder.Extra Try.prog Try.lays167_ren := {
  sizeBuilder := by kernel_rfl
  liesBuilder := by kernel_rfl
  t5 := Try.underlying5
  a5 := Try.isAgg5
  z5 := Try.sizeOf5
  v5 := Try.zeroValue5
  infoByte := by kernel_rfl
  cellsByte := by kernel_rfl
  sizeByte := by kernel_rfl
  neB5 := by decide }
open Go.RowKit in
theorem Try.Builder_WriteByte_k (B b : Nat) (bs : List Value) (c : Int) (w : World) (h : Lib.IsBuilderF 39 5 B b bs w) (hlen : bs.length + 1 ≤ 140737488355328) (hBw : B ≤ w.heap.size) :
    Calls Try.prog 39 #[.pointer (some ⟨b, 0, none⟩), .int .u8 c] w fun e w' => e = .returned .nilIface ∧ (Lib.BuilderAtF 39 5 B b (.pointer (some ⟨b, 0, none⟩)) (bs ++ [.int .u8 c]) w' ∧ Below B w w' ∧ Lib.OthersKept 5 (some b) w w') := Any.Builder_WriteByte_k Try.lays167 Try.Builder_Extra_167 B b bs c w h hlen hBw
end Go.Proofs
