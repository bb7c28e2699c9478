import Derived.Shelf.Strings.OnBuilder
import Derived.Test.Qxb6601293aChecked
namespace Go.Proofs
open Go.Shelf
def Try.lays156_ren : Go.Shelf.Ren := ⟨fun | 156 => 26 | 165 => 27 | 166 => 28 | 169 => 29 | 240 => 30 | 241 => 31 | 276 => 32 | 277 => 33 | n => n, fun | 31 => 31 | 9 => 9 | 3 => 3 | 4 => 4 | 0 => 0 | 20 => 20 | 72 => 52 | 76 => 56 | 70 => 49 | 37 => 50 | 75 => 55 | 127 => 59 | 164 => 60 | 5 => 5 | 80 => 58 | n => n, fun | n => n⟩
theorem Try.lays156 : Go.Proofs.Lays.n156 Try.prog Try.lays156_ren := {
  mixed := by kernel_rfl
  f156 := Try.func26.trans (congrArg some (by kernel_rfl))
  f165 := Try.func27.trans (congrArg some (by kernel_rfl))
  f166 := Try.func28.trans (congrArg some (by kernel_rfl))
  f169 := Try.func29.trans (congrArg some (by kernel_rfl))
  f240 := Try.func30.trans (congrArg some (by kernel_rfl))
  f241 := Try.func31.trans (congrArg some (by kernel_rfl))
  f276 := Try.func32.trans (congrArg some (by kernel_rfl))
  f277 := Try.func33.trans (congrArg some (by kernel_rfl))
  t0 := Try.underlying0
  a0 := Try.isAgg0
  z0 := Try.sizeOf0
  v0 := Try.zeroValue0
  t3 := Try.underlying3
  a3 := Try.isAgg3
  z3 := Try.sizeOf3
  v3 := Try.zeroValue3
  t4 := Try.underlying4
  a4 := Try.isAgg4
  z4 := Try.sizeOf4
  v4 := Try.zeroValue4
  t9 := Try.underlying9
  a9 := Try.isAgg9
  z9 := Try.sizeOf9
  v9 := Try.zeroValue9
  t20 := Try.underlying20
  a20 := Try.isAgg20
  z20 := Try.sizeOf20
  v20 := Try.zeroValue20
  t31 := Try.underlying31
  a31 := Try.isAgg31
  z31 := Try.sizeOf31
  v31 := Try.zeroValue31
  t37 := Try.underlying50
  a37 := Try.isAgg50
  z37 := Try.sizeOf50
  v37 := Try.zeroValue50
  t70 := Try.underlying49
  a70 := Try.isAgg49
  z70 := Try.sizeOf49
  v70 := Try.zeroValue49
  t72 := Try.underlying52
  a72 := Try.isAgg52
  z72 := Try.sizeOf52
  v72 := Try.zeroValue52
  t75 := Try.underlying55
  a75 := Try.isAgg55
  z75 := Try.sizeOf55
  v75 := Try.zeroValue55
  t76 := Try.underlying56
  a76 := Try.isAgg56
  z76 := Try.sizeOf56
  v76 := Try.zeroValue56
  t127 := Try.underlying59
  a127 := Try.isAgg59
  z127 := Try.sizeOf59
  v127 := Try.zeroValue59
  t164 := Try.underlying60
  a164 := Try.isAgg60
  z164 := Try.sizeOf60
  v164 := Try.zeroValue60 }
theorem Try.Builder_Extra_156 : Builder.Extra Try.prog Try.lays156_ren := {
  sizeBuilder := by kernel_rfl
  liesBuilder := by kernel_rfl
  t5 := Try.underlying5
  a5 := Try.isAgg5
  z5 := Try.sizeOf5
  v5 := Try.zeroValue5
  infoByte := by kernel_rfl
  cellsByte := by kernel_rfl
  sizeByte := by kernel_rfl
  neB5 := by decide }
open Go.RowKit in
theorem Try.strings_Join (bk o c : Nat) (xs : List ByteArray) (sep : ByteArray) (w : World) (hcells : ∀ (j : Nat) x, xs[j]? = some x → w.cell? ⟨bk, o + j, none⟩ = some (.string x)) (hbk : bk < w.heap.size) (hN : xs.length ≤ 140737488355328) (hcap : xs.length ≤ c) (hlen : (Lib.join (xs.map (·.data.toList)) sep.data.toList).length ≤ 140737488355328) :
    Calls Try.prog 26 #[.slice (some ⟨bk, o, none⟩) xs.length c, .string sep] w fun e w' => e = .returned (.string ⟨(Lib.join (xs.map (·.data.toList)) sep.data.toList).toArray⟩) ∧ Below w.heap.size w w' := Any.strings_Join Try.lays156 Try.Builder_Extra_156 bk o c xs sep w hcells hbk hN hcap hlen
end Go.Proofs
