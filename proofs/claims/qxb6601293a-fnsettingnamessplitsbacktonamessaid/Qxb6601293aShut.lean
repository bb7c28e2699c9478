import Derived.Test.Qxb6601293aBase
import Derived.ProofKit
import Derived.OpenShut
import Derived.ShutString
import Derived.ChangeOld
import Derived.SliceStrings
import Derived.Laws.Cover2
namespace Go.Proofs.Qxb6601293a
open Go.ChangeShapes Go.WideShapes Go.ChangeAt Go.RowKit

theorem own : ownKnob Try.prog.godebug = none := by kernel_rfl
theorem laidOut : laidOutB Try.prog = true := by kernel_rfl
theorem cells34 : Try.prog.cellsOf 34 = 1 := by kernel_rfl
theorem cells9 : Try.prog.cellsOf 9 = 1 := by kernel_rfl

section
variable {H : Type} {enc : TypeId × Value → H} {w : World} {base : Nat} {spare : Nat → Bool} {held : Bool}
theorem trod_f {fuel : Nat} {c : Value} {y : DataW H × List MemPlace} (hy : DataW.trod enc Try.prog w base spare held fuel 34 [c] = some y) : ∃ f, c = .float .f64 f := by
  cases fuel with
  | zero => simp [DataW.trod] at hy
  | succ n =>
    simp only [DataW.trod, Try.underlying34] at hy
    cases c <;> simp at hy
    rename_i k f
    obtain ⟨⟨hk, _⟩, _⟩ := hy
    exact ⟨f, by rw [hk]⟩
theorem ptr_float {r : Reach} {b0 : Nat} {v : Value} {d : DataW H} {ps : List MemPlace} (hval : Value.okWide Try.prog w r b0 33 v) (hd : DataW.Trod enc Try.prog w base spare held 33 v d ps) :
    ∃ g, v = .pointer g ∧ (g = none ∨ ∃ p f, g = some p ∧ w.cell? p = some (.float .f64 f)) := by
  rcases open_ptr Try.underlying33 (by rw [cells34]; omega) hval hd with ⟨h, _, _⟩ | ⟨b, off, cs, y, fuel, rfl, _, _, hlen, hcell, hy⟩
  · exact ⟨none, h, .inl rfl⟩
  · refine ⟨_, rfl, .inr ⟨⟨b, off, none⟩, ?_⟩⟩
    rw [cells34] at hlen hcell
    have h0 := hcell 0 (by omega)
    obtain ⟨c, rfl⟩ : ∃ c, cs = [c] := by
      cases cs with
      | nil => simp at hlen
      | cons c r => cases r with
        | nil => exact ⟨c, rfl⟩
        | cons _ _ => simp at hlen
    obtain ⟨f, rfl⟩ := trod_f hy
    exact ⟨f, rfl, by simpa using h0⟩

theorem strs_is {fuel : Nat} {a : Option Addr} {len cap : Nat} {x : DataW H × List MemPlace} (hf : DataW.trod enc Try.prog w base spare held fuel 31 (Value.slice a len cap).cells.toList = some x) :
    len ≤ maxLen ∧ IsStrs w a len := by
  rcases open_strings Try.underlying31 Try.underlying9 cells9 hf with ⟨hcs, _⟩ | ⟨y, l, c, ss, hcs, _, hl, hm, hz, _, hcell, hws⟩
  · simp [Value.cells] at hcs
    obtain ⟨rfl, rfl, rfl⟩ := hcs
    exact ⟨by omega, .inl rfl⟩
  · simp [Value.cells] at hcs
    obtain ⟨rfl, rfl, rfl⟩ := hcs
    refine ⟨by omega, ?_⟩
    by_cases h0 : len = 0
    · exact .inl h0
    · have hle : len ≤ ss.length := by rw [hz]; split <;> omega
      obtain ⟨b, off, spot⟩ := y
      have hspot : spot = none := by simpa [Addr.add] using World.cell?_spot (hcell 0 (by omega))
      subst hspot
      refine .inr ⟨b, off, rfl, fun i => ss.getD i ByteArray.empty, fun i hi => ?_⟩
      rw [← Go.WideShapes.add_plain]; exact hcell i (by omega)
end
end Go.Proofs.Qxb6601293a
