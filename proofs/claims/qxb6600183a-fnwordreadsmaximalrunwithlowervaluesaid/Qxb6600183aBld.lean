import Derived.Test.Qxb6600183aShelf
import Derived.Test.Qxb6600183aB2
import Derived.BigCall
namespace Go.Proofs.Qxb6600183a
open Go.RowKit

/-- the builder's buffer has room: its capacity is not 0 -/
def CapOk (b : Nat) (w : World) : Prop := ∃ p n cap, w.cell? ⟨b, 1, none⟩ = some (.slice p n cap) ∧ 0 < cap
/-- a builder at block b that holds l and has a buffer -/
def Bld (B b : Nat) (l : List UInt8) (w : World) : Prop := Lib.IsBuilderF 39 5 B b (Lib.byteCells l) w ∧ CapOk b w

theorem bld_of {B b : Nat} {l : List UInt8} {w : World} (h : Lib.IsBuilderF 39 5 B b (Lib.byteCells l) w) (h0 : l ≠ []) : Bld B b l w := by
  refine ⟨h, ?_⟩
  have key : ∀ p, Lib.BuilderAtF 39 5 B b p (Lib.byteCells l) w → CapOk b w := by
    rintro p ⟨hB, v, hbk, hown, hne⟩
    have c1 : w.cell? ⟨b, 1, none⟩ = some v := by rw [Lib.cell_of_heap hbk]; rfl
    have hl0 : l.length ≠ 0 := by simpa using h0
    rw [Lib.byteCells_length] at hown
    rcases hown.2 with ⟨_, hz⟩ | ⟨g, cap, cur, fz, hv, hbg, hg, hfz, hnc, r⟩
    · exact absurd hz hl0
    · subst hv; exact ⟨_, _, cap, c1, by omega⟩
  rcases h with h | h
  · exact key _ h
  · exact key _ h

theorem at_below {B b : Nat} {p : Value} {bs : List Value} {w w' : World} (h : Lib.BuilderAtF 39 5 B b p bs w) (hb : Below w.heap.size w w') : Lib.BuilderAtF 39 5 B b p bs w' := by
  have hlt := h.lt
  obtain ⟨hB, v, hbk, hown, hne⟩ := h
  refine ⟨hB, v, by rw [hb.block b hlt]; exact hbk, ⟨hown.1, ?_⟩, hne⟩
  rcases hown.2 with hn | ⟨g, cap, cur, fz, hv, hbg, hg, r⟩
  · exact .inl hn
  · refine .inr ⟨g, cap, cur, fz, hv, hbg, ?_, r⟩
    rw [hb.block g (Array.getElem?_eq_some_iff.1 hg).1]; exact hg

/-- what lies below the heap's end stands: so does a builder -/
theorem Bld.below {B b : Nat} {l : List UInt8} {w w' : World} (h : Bld B b l w) (hb : Below w.heap.size w w') : Bld B b l w' := by
  obtain ⟨h, p, n, cap, c1, hpos⟩ := h
  have hlt : b < w.heap.size := by
    rcases h with h | h
    · exact h.lt
    · exact h.lt
  refine ⟨?_, p, n, cap, by rw [hb.cell (p := ⟨b, 1, none⟩) hlt]; exact c1, hpos⟩
  rcases h with h | h
  · exact .inl (at_below h hb)
  · exact .inr (at_below h hb)

theorem string_any (B b : Nat) (l : List UInt8) (w : World) (h : Bld B b l w) :
    Calls Try.prog 15 #[.pointer (some ⟨b, 0, none⟩)] w fun e w' => e = .returned (.string ⟨l.toArray⟩) ∧ Bld B b l w' ∧ Below B w w' := by
  cases l with
  | cons x r =>
    refine (Try.Builder_String_k B b (x :: r) w h.1 (by simp)).mono ?_
    rintro e w' ⟨he, h1, hb, _⟩
    exact ⟨he, bld_of h1 (by simp), hb⟩
  | nil =>
    have hw := h
    obtain ⟨h, hc⟩ := h
    have key : ∀ p, Lib.BuilderAtF 39 5 B b p (Lib.byteCells []) w → Calls Try.prog 15 #[.pointer (some ⟨b, 0, none⟩)] w fun e w' => e = .returned (.string ⟨#[]⟩) ∧ Below w.heap.size w w' := by
      rintro p ⟨hB, v, hbk, hown, hne⟩
      have c1 : w.cell? ⟨b, 1, none⟩ = some v := by rw [Lib.cell_of_heap hbk]; rfl
      obtain ⟨q, n, cap, hq, hpos⟩ := hc
      rw [hq] at c1
      injection c1 with c1
      rcases hown.2 with ⟨hv, _⟩ | ⟨g, cap', cur, fz, hv, r⟩
      · rw [hv] at c1; injection c1 with _ _ e; omega
      · rw [hv] at c1; injection c1 with _ _ e
        rw [hv] at hbk
        exact Any.Builder_String_room Try.lays169 Try.Builder_Extra_169 w.heap.size b g cap' p w (by omega) hbk
    have hC : Calls Try.prog 15 #[.pointer (some ⟨b, 0, none⟩)] w fun e w' => e = .returned (.string ⟨#[]⟩) ∧ Below w.heap.size w w' := by
      rcases h with h | h
      · exact key _ h
      · exact key _ h
    refine hC.mono ?_
    rintro e w' ⟨he, hb⟩
    have hlt : B ≤ w.heap.size := by
      rcases h with h | h
      · exact Nat.le_trans h.1 (Nat.le_of_lt h.lt)
      · exact Nat.le_trans h.1 (Nat.le_of_lt h.lt)
    exact ⟨he, hw.below hb, hb.mono hlt⟩

/-- Cap -/
theorem cap_any (b : Nat) (p : Option Addr) (n cap : Nat) (w : World) (c1 : w.cell? ⟨b, 1, none⟩ = some (.slice p n cap)) :
    Calls Try.prog 37 #[.pointer (some ⟨b, 0, none⟩)] w fun e w' => e = .returned (.int .i64 cap) ∧ w' = w := by
  go_enter Try.func37, Try.ntmps37
  go_wp2
  go_ret
  exact ⟨rfl, rfl⟩

theorem writeByte_any (B b : Nat) (l : List UInt8) (c : UInt8) (n : Int) (hn : n = (c.toNat : Int)) (w : World) (h : Lib.IsBuilderF 39 5 B b (Lib.byteCells l) w) (hlen : l.length + 1 ≤ 140737488355328) (hBw : B ≤ w.heap.size) :
    Calls Try.prog 39 #[.pointer (some ⟨b, 0, none⟩), .int .u8 n] w fun e w' => e = .returned .nilIface ∧ Bld B b (l ++ [c]) w' ∧ Below B w w' := by
  subst hn
  refine (Try.Builder_WriteByte_k B b (Lib.byteCells l) c.toNat w h (by rw [Lib.byteCells_length]; exact hlen) hBw).mono ?_
  rintro e w' ⟨he, h1, hb, _⟩
  refine ⟨he, bld_of ?_ (by simp), hb⟩
  rw [Lib.byteCells_append]; exact Or.inr h1
end Go.Proofs.Qxb6600183a
