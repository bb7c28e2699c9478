import Derived.Test.Qxb6601293aShut
import Derived.Test.Qxb6601293aSets
import Derived.Deep.Strs
namespace Go.Proofs.Qxb6601293a
open Go.ChangeShapes Go.WideShapes Go.ChangeAt Go.RowKit

theorem cells26 : Try.prog.cellsOf 26 = 3 := by kernel_rfl
theorem cells2 : Try.prog.cellsOf 2 = 1 := by kernel_rfl
theorem cells4 : Try.prog.cellsOf 4 = 1 := by kernel_rfl

section
variable {H : Type} {enc : TypeId × Value → H} {w : World} {base : Nat} {spare : Nat → Bool} {held : Bool}
theorem one_set {n : Nat} {a : Addr} {y : DataW H × List MemPlace} (h : (w.cells? base a 3).bind (DataW.trod enc Try.prog w base spare held n 26) = some y) :
    ∃ s l t, w.cell? (a.add 0) = some (.string s) ∧ w.cell? (a.add 1) = some (.int .i64 l) ∧ w.cell? (a.add 2) = some (.bool t) := by
  rw [Option.bind_eq_some_iff] at h
  obtain ⟨cs, hcs, hy⟩ := h
  obtain ⟨_, hlen, hc⟩ := World.cells?_some hcs
  obtain ⟨c0, c1, c2, rfl⟩ : ∃ c0 c1 c2, cs = [c0, c1, c2] := by
    match cs, hlen with
    | [c0, c1, c2], _ => exact ⟨c0, c1, c2, rfl⟩
  obtain ⟨y0, y1, y2, m, _, _, h0, h1, h2⟩ := Go.Deep.trod_struct3 Try.underlying26 hy
  simp only [cells9, cells2, cells4, List.drop_zero, List.take_succ_cons, List.take_zero, List.drop_succ_cons] at h0 h1 h2
  obtain ⟨s, e0, _⟩ := DataW.trod_string Try.underlying9 h0
  obtain ⟨l, e1, _⟩ := DataW.trod_int Try.underlying2 h1
  obtain ⟨t, e2, _⟩ := DataW.trod_bool Try.underlying4 h2
  simp at e0 e1 e2
  subst e0 e1 e2
  exact ⟨s, l, t, by simpa using hc 0 (by omega), by simpa using hc 1 (by omega), by simpa using hc 2 (by omega)⟩

theorem sets_is {fuel : Nat} {a : Option Addr} {len cap : Nat} {x : DataW H × List MemPlace} (hf : DataW.trod enc Try.prog w base spare held fuel 22 (Value.slice a len cap).cells.toList = some x) :
    len ≤ maxLen ∧ (len = 0 ∨ ∃ b off, a = some ⟨b, off, none⟩ ∧ ∃ S L T, ∀ j, j < len * 3 → w.cell? ⟨b, off + j, none⟩ = some (setC S L T j)) := by
  rcases DataW.trod_slice Try.underlying22 hf with ⟨hcs, _⟩ | ⟨y, l, c, elems, rest, n, _, hcs, _, _, hl, hm, hlen, hel, _, _⟩
  · simp [Value.cells] at hcs
    obtain ⟨rfl, rfl, rfl⟩ := hcs
    exact ⟨by omega, .inl rfl⟩
  · simp [Value.cells] at hcs
    obtain ⟨rfl, rfl, rfl⟩ := hcs
    refine ⟨by omega, ?_⟩
    by_cases h0 : len = 0
    · exact .inl h0
    · right
      rw [cells26] at hel
      have each : ∀ i, i < len → ∃ s l t, w.cell? ((y.add (i * 3)).add 0) = some (.string s) ∧ w.cell? ((y.add (i * 3)).add 1) = some (.int .i64 l) ∧ w.cell? ((y.add (i * 3)).add 2) = some (.bool t) := by
        intro i hi
        have hi' : i < elems.length := by omega
        exact one_set (by rw [hel i hi]; exact List.getElem?_eq_getElem hi')
      obtain ⟨b, off, spot⟩ := y
      have hspot : spot = none := by
        obtain ⟨s, _, _, h, _⟩ := each 0 (by omega)
        simpa [Addr.add] using World.cell?_spot h
      subst hspot
      refine ⟨b, off, rfl, ?_⟩
      have each' : ∀ i, ∃ (s : ByteArray) (l : Int) (t : Bool), i < len → w.cell? ⟨b, off + i * 3, none⟩ = some (.string s) ∧ w.cell? ⟨b, off + (i * 3 + 1), none⟩ = some (.int .i64 l) ∧ w.cell? ⟨b, off + (i * 3 + 2), none⟩ = some (.bool t) := by
        intro i
        by_cases hi : i < len
        · obtain ⟨s, l, t, e0, e1, e2⟩ := each i hi
          rw [add_plain, add_plain] at e0 e1 e2
          exact ⟨s, l, t, fun _ => ⟨e0, by rw [← Nat.add_assoc]; exact e1, by rw [← Nat.add_assoc]; exact e2⟩⟩
        · exact ⟨ByteArray.empty, 0, false, fun h => absurd h hi⟩
      refine ⟨fun i => (each' i).choose, fun i => (each' i).choose_spec.choose, fun i => (each' i).choose_spec.choose_spec.choose, fun j hj => ?_⟩
      have hs := (each' (j / 3)).choose_spec.choose_spec.choose_spec (by omega)
      have hr : j % 3 = 0 ∨ j % 3 = 1 ∨ j % 3 = 2 := by omega
      unfold setC
      rcases hr with h | h | h
      · have e : j = j / 3 * 3 := by omega
        rw [if_pos h]; conv => lhs; rw [e]
        exact hs.1
      · have e : j = j / 3 * 3 + 1 := by omega
        rw [if_neg (by omega), if_pos h]; conv => lhs; rw [e]
        exact hs.2.1
      · have e : j = j / 3 * 3 + 2 := by omega
        rw [if_neg (by omega), if_neg (by omega)]; conv => lhs; rw [e]
        exact hs.2.2
end
end Go.Proofs.Qxb6601293a
