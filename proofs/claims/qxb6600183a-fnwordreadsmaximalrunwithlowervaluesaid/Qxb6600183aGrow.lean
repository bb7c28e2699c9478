import Derived.Test.Qxb6600183aBld
namespace Go.Proofs.Qxb6600183a
open Go.RowKit

set_option maxHeartbeats 2000000 in
set_option maxRecDepth 1000000 in
/-- grow at a builder without a buffer: the world behind it, written out -/
theorem grow_exact (b n : Nat) (w : World) (hbk : w.heap[b]? = some (.cells #[.pointer (some ⟨b, 0, none⟩), .slice none 0 0] 39 (0, 0))) (hn : n ≤ 281474976710656) :
    Calls Try.prog 43 #[.pointer (some ⟨b, 0, none⟩), .int .i64 n] w fun e w' => e = .returned (.tuple #[]) ∧ ∃ cs : Array Value, n ≤ cs.size ∧ cs.size ≤ maxLen ∧ w' = ((w.alloc (.cells cs 5)).setCell ⟨b, 1, none⟩ (.slice (some ⟨w.heap.size, 0, none⟩) 0 cs.size)).drew.drew.drew := by
  obtain ⟨cs, hrun, hle, hmax⟩ := Lib.run_makeNoZero (P := Try.prog) w.drew #[3] 37 5 Try.underlying37 n hn
  have hw : IntKind.i64.wrap (IntKind.i64.wrap 0 + (n : Int)) = n := by
    rw [IntKind.wrap_i64, IntKind.wrap_i64]
    omega
  have hcall : (callFunc 50 #[.int .i64 (IntKind.i64.wrap (IntKind.i64.wrap 0 + (n : Int)))]).run Try.prog w.drew = .ok (.value (.slice (some ⟨w.drew.heap.size, 0, none⟩) n cs.size)) (w.drew.drew.drew.alloc (.cells cs 5)) := by
    rw [hw, run_callFunc_extern Try.func50 (by kernel_rfl) (by kernel_rfl) (by kernel_rfl) (e := Extern.BytealgMakeNoZero.makeNoZero #[3] #[37]) (by kernel_rfl), hrun]
    rfl
  have hlt : b < w.heap.size := by
    rcases Nat.lt_or_ge b w.heap.size with h' | h'
    · exact h'
    · simp [Array.getElem?_eq_none h'] at hbk
  have c1 : w.drew.cell? ⟨b, 1, none⟩ = some (.slice none 0 0) := by
    have : w.drew.heap[b]? = _ := hbk
    rw [Lib.cell_of_heap this]; rfl
  have c2 : (w.alloc (.cells cs 5)).cell? ⟨b, 1, none⟩ = some (.slice none 0 0) := by
    have : (w.alloc (.cells cs 5)).heap[b]? = _ := (Lib.alloc_old w _ b hlt).trans hbk
    rw [Lib.cell_of_heap this]; rfl
  have f2 : (w.alloc (.cells cs 5)).frozen? ⟨b, 1, none⟩ = false := Lib.frozen_of_heap ((Lib.alloc_old w _ b hlt).trans hbk) 1
  have hcopy : ∀ W : World, (Builtin.copy_ #[37, 37] 3 #[.slice (some ⟨w.heap.size, 0, none⟩) 0 cs.size, .slice none 0 0]).run Try.prog W = .ok (goInt 0) W :=
    fun W => run_copy_none W 37 37 3 5 _ _ 0 cs.size 0 0 Try.underlying37 Try.Builder_Extra_165.sizeByte rfl
  have hm : cs.size ≤ maxLen := hmax (by unfold maxLen; omega)
  clear hw hlt hmax
  have mixed := Try.lays169.mixed
  go_enter Try.func43, Try.ntmps43
  go_wp2
  go_region_o
  all_goals (go_wp2; go_end0; exact ⟨rfl, cs, hle, hm, rfl⟩)
end Go.Proofs.Qxb6600183a
