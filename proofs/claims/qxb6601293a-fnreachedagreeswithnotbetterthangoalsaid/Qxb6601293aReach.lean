import Derived.Test.Qxb6601293aCopy
import Derived.Deep.RegionWith
import Derived.Deep.QuietTactic
import Derived.BigQuiet
namespace Go.Proofs.Qxb6601293a
open Go.RowKit

theorem cell_alloc {w : World} {b off : Nat} {v : Value} (h : w.cell? ⟨b, off, none⟩ = some v) (o : Obj) : (w.alloc o).cell? ⟨b, off, none⟩ = some v := by
  have hb : b < w.heap.size := by
    rcases Nat.lt_or_ge b w.heap.size with h' | h'
    · exact h'
    · simp [World.cell?, Array.getElem?_eq_none h'] at h
  rw [((Below.refl _ w).alloc (Nat.le_refl _) o).cell (p := ⟨b, off, none⟩) hb]; exact h

set_option maxHeartbeats 1000000 in
theorem reached_eq (typ name : ByteArray) (a : Option Addr) (b off n c x f : Nat) (w : World) (hp : w.cell? ⟨b, off, none⟩ = some (.float .f64 f)) (he : (FloatKind.f64.format.order x f == some .eq) = true) :
    Calls Try.prog 23 #[.agg #[.string typ, .pointer (some ⟨b, off, none⟩), .string name, .slice a n c], .float .f64 x] w fun e w' => e = .returned (.bool true) ∧ ∃ k, (w.alloc (.cells #[.string typ, .pointer (some ⟨b, off, none⟩), .string name, .slice a n c] 41)).drewN k = w' := by
  have hp1 := cell_alloc hp
  go_enter Try.func23, Try.ntmps23
  go_wp2
  go_quiet (fail)
  go_wp2
  go_ret
  exact ⟨rfl, nq, rfl⟩

set_option maxHeartbeats 1000000 in
theorem reached_ne (typ name : ByteArray) (a : Option Addr) (b off n c x f : Nat) (w : World) (hp : w.cell? ⟨b, off, none⟩ = some (.float .f64 f)) (he : (FloatKind.f64.format.order x f == some .eq) = false) :
    Calls Try.prog 23 #[.agg #[.string typ, .pointer (some ⟨b, off, none⟩), .string name, .slice a n c], .float .f64 x] w fun e w' => e = .returned (.bool (better (isMax typ) x f)) ∧ ∃ k, ((w.alloc (.cells #[.string typ, .pointer (some ⟨b, off, none⟩), .string name, .slice a n c] 41)).alloc (.cells #[.string typ, .pointer (some ⟨b, off, none⟩), .string name, .slice a n c] 41)).drewN k = w' := by
  have hp1 := cell_alloc hp
  go_enter Try.func23, Try.ntmps23
  go_wp2
  go_region_with (go_at_call 20; refine (better_any _ _ _ _ _ _ _ _ _).mono ?_; rintro e _ ⟨rfl, rfl⟩)
  all_goals (go_wp2; go_ret; exact ⟨rfl, 1, rfl⟩)
end Go.Proofs.Qxb6601293a
