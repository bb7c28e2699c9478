import Derived.Test.Qxb6600183aBase
namespace Go.Proofs.Qxb6600183a
open Go.RowKit

/-- the world has only drawn -/
def Drew (w w' : World) : Prop := ∃ n, w' = w.drewN n
theorem Drew.refl (w : World) : Drew w w := ⟨0, rfl⟩
theorem Drew.on {w w' : World} (h : Drew w w') (n : Nat) : Drew w (w'.drewN n) := by
  obtain ⟨m, rfl⟩ := h; exact ⟨m + n, by rw [World.drewN_drewN]⟩

set_option maxHeartbeats 400000 in
theorem isLowerCopy_true (o g : ByteArray) (w : World) (hs : o.size ≤ maxLen) (h1 : g.size ≤ o.size) (h2 : o.size ≤ g.size)
    (hg : Hid (∀ (k : Nat) (h : k < o.size) (h' : k < g.size), ((g[k]'h').toNat : Int) = small ((o[k]'h).toNat : Int))) :
    Calls Try.prog 13 #[.string o, .string g] w fun e w' => e = .returned (.bool true) ∧ Drew w w' := by
  unfold maxLen at hs
  go_enter Try.func13, Try.ntmps13
  go_wp2
  go_loopw [4, 5] (fun r i wr => ∃ k : Nat, k ≤ o.size ∧ i = .int .i64 k ∧ Drew w wr) (fun _ i _ => o.size - (intOf i).toNat)
  case atStart => exact ⟨0, by omega, rfl, Drew.refl w⟩
  case round =>
    obtain ⟨k, hk, rfl, hd⟩ := hrel
    by_cases hlt : k < o.size
    · have hlt' : k < g.size := by omega
      go_wp2
      go_quiet ((go_at_call 29; exact Calls.quiet_of_same (smallOf_any _ _)))
      have hne : (((g[k]'hlt').toNat : Int) != small ((o[k]'hlt).toNat : Int)) = false := by
        rw [hg.out k hlt hlt']; simp
      go_wp2
      go_roundw
      case rel => exact ⟨k + 1, by omega, by go_num, hd.on nq⟩
      case measure => simp [intOf]; omega
    · go_wp2
      go_ret
      exact ⟨rfl, hd⟩
end Go.Proofs.Qxb6600183a
