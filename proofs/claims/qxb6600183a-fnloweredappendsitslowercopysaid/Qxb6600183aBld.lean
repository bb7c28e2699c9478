import Derived.Test.Qxb6600183aShelf
import Derived.Test.Qxb6600183aB2
import Derived.BigCall
namespace Go.Proofs.Qxb6600183a
open Go.RowKit

/-- the builder's buffer has room: its capacity is not 0 -/
def CapOk (b : Nat) (w : World) : Prop := ∃ p n cap, w.cell? ⟨b, 1, none⟩ = some (.slice p n cap) ∧ 0 < cap
/-- a builder at block b that holds l and has a buffer -/
def Bld (B b : Nat) (l : List UInt8) (w : World) : Prop := Lib.IsBuilderF 39 5 B b (Lib.byteCells l) w ∧ CapOk b w

theorem bld_of {B b : Nat} {l : List UInt8} {w : World} (h : Lib.IsBuilderF 39 5 B b (Lib.byteCells l) w) (h0 : l ≠ []) : Bld B b l w := by
  refine ⟨h, ?_⟩
  have key : ∀ p, Lib.BuilderAtF 39 5 B b p (Lib.byteCells l) w → CapOk b w := by
    rintro p ⟨hB, v, hbk, hown, hne⟩
    have c1 : w.cell? ⟨b, 1, none⟩ = some v := by rw [Lib.cell_of_heap hbk]; rfl
    have hl0 : l.length ≠ 0 := by simpa using h0
    rw [Lib.byteCells_length] at hown
    rcases hown.2 with ⟨_, hz⟩ | ⟨g, cap, cur, fz, hv, hbg, hg, hfz, hnc, r⟩
    · exact absurd hz hl0
    · subst hv; exact ⟨_, _, cap, c1, by omega⟩
  rcases h with h | h
  · exact key _ h
  · exact key _ h

set_option maxHeartbeats 1000000 in
set_option maxRecDepth 100000 in
theorem string_room (b g cap : Nat) (p : Value) (w : World) (hc0 : cap ≠ 0) (hbk : w.heap[b]? = some (.cells #[p, .slice (some ⟨g, 0, none⟩) 0 cap] 39 (0, 0))) :
    Calls Try.prog 15 #[.pointer (some ⟨b, 0, none⟩)] w fun e w' => e = .returned (.string ⟨#[]⟩) ∧ w' = w.drew := by
  have hUS : ∀ (W : World) (q : Option Addr), (Builtin.unsafeString_ #[45, 3] 9 #[.pointer q, .int .i64 0]).run Try.prog W = .ok (.string .empty) W := fun W q => Lib.run_unsafeString_none W _ _ _ q
  have mixed := Try.lays169.mixed
  have c1 : w.drew.cell? ⟨b, 1, none⟩ = some (.slice (some ⟨g, 0, none⟩) 0 cap) := by
    have : w.drew.heap[b]? = some (.cells #[p, .slice (some ⟨g, 0, none⟩) 0 cap] 39 (0, 0)) := hbk
    rw [Lib.cell_of_heap this]; rfl
  have hSD : (Builtin.unsafeSliceData_ #[37] 45 #[.slice (some ⟨g, 0, none⟩) 0 cap]).run Try.prog w.drew = .ok (.pointer (some ⟨g, 0, none⟩)) w.drew :=
    Lib.run_unsafeSliceData_row _ _ _ _ _ _ hc0
  clear hc0
  go_enter Try.func15, Try.ntmps15
  go_wp2
  go_region_o
  all_goals (go_wp2; go_ret; exact ⟨rfl, rfl⟩)

theorem string_any (B b : Nat) (l : List UInt8) (w : World) (h : Bld B b l w) :
    Calls Try.prog 15 #[.pointer (some ⟨b, 0, none⟩)] w fun e w' => e = .returned (.string ⟨l.toArray⟩) ∧ Bld B b l w' ∧ Below B w w' := by
  cases l with
  | cons x r =>
    refine (Try.Builder_String_k B b (x :: r) w h.1 (by simp)).mono ?_
    rintro e w' ⟨he, h1, hb, _⟩
    exact ⟨he, bld_of h1 (by simp), hb⟩
  | nil =>
    obtain ⟨h, hc⟩ := h
    have key : ∀ p, Lib.BuilderAtF 39 5 B b p (Lib.byteCells []) w → Calls Try.prog 15 #[.pointer (some ⟨b, 0, none⟩)] w fun e w' => e = .returned (.string ⟨#[]⟩) ∧ w' = w.drew := by
      rintro p ⟨hB, v, hbk, hown, hne⟩
      have c1 : w.cell? ⟨b, 1, none⟩ = some v := by rw [Lib.cell_of_heap hbk]; rfl
      obtain ⟨q, n, cap, hq, hpos⟩ := hc
      rw [hq] at c1
      injection c1 with c1
      rcases hown.2 with ⟨hv, _⟩ | ⟨g, cap', cur, fz, hv, r⟩
      · rw [hv] at c1; injection c1 with _ _ e; omega
      · rw [hv] at c1; injection c1 with _ _ e
        rw [hv] at hbk
        exact string_room b g cap' p w (by omega) hbk
    have hC : Calls Try.prog 15 #[.pointer (some ⟨b, 0, none⟩)] w fun e w' => e = .returned (.string ⟨#[]⟩) ∧ w' = w.drew := by
      rcases h with h | h
      · exact key _ h
      · exact key _ h
    refine hC.mono ?_
    rintro e w' ⟨he, rfl⟩
    refine ⟨he, ⟨?_, hc⟩, (Below.refl B w).drew⟩
    rcases h with h | h
    · exact .inl h.drew
    · exact .inr h.drew

/-- Cap -/
theorem cap_any (b : Nat) (p : Option Addr) (n cap : Nat) (w : World) (c1 : w.cell? ⟨b, 1, none⟩ = some (.slice p n cap)) :
    Calls Try.prog 37 #[.pointer (some ⟨b, 0, none⟩)] w fun e w' => e = .returned (.int .i64 cap) ∧ w' = w := by
  go_enter Try.func37, Try.ntmps37
  go_wp2
  go_ret
  exact ⟨rfl, rfl⟩

theorem writeByte_any (B b : Nat) (l : List UInt8) (c : UInt8) (n : Int) (hn : n = (c.toNat : Int)) (w : World) (h : Lib.IsBuilderF 39 5 B b (Lib.byteCells l) w) (hlen : l.length + 1 ≤ 140737488355328) (hBw : B ≤ w.heap.size) :
    Calls Try.prog 39 #[.pointer (some ⟨b, 0, none⟩), .int .u8 n] w fun e w' => e = .returned .nilIface ∧ Bld B b (l ++ [c]) w' ∧ Below B w w' := by
  subst hn
  refine (Try.Builder_WriteByte_k B b (Lib.byteCells l) c.toNat w h (by rw [Lib.byteCells_length]; exact hlen) hBw).mono ?_
  rintro e w' ⟨he, h1, hb, _⟩
  refine ⟨he, bld_of ?_ (by simp), hb⟩
  rw [Lib.byteCells_append]; exact Or.inr h1
end Go.Proofs.Qxb6600183a
