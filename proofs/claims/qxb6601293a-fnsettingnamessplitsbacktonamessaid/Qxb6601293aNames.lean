import Derived.Test.Qxb6601293aSets2
import Derived.Test.Qxb6601293aCopy
import Derived.Test.Qxb6601293aShelf
namespace Go.Proofs.Qxb6601293a
open Go.RowKit

/-- the names as a list -/
def namesL (S : Nat → ByteArray) (len : Nat) : List ByteArray := (List.range len).map S
/-- the text that settingNames gives -/
def textL (S : Nat → ByteArray) (len : Nat) : List UInt8 := Lib.join ((namesL S len).map (·.data.toList)) [44, 32]
def rowS (S : Nat → ByteArray) (k j : Nat) : Value := if j < k then .string (S j) else .string ⟨#[]⟩
theorem rowS_set {w : World} {b n : Nat} {S : Nat → ByteArray} {k : Nat} (h : w.rowIs b 9 n (rowS S k)) : (w.setCell ⟨b, k, none⟩ (.string (S k))).rowIs b 9 n (rowS S (k + 1)) := by
  refine (h.set k _).congr fun j _ => ?_
  unfold rowS
  by_cases e : j = k
  · subst e; rw [if_pos rfl, if_pos (by omega)]
  · rw [if_neg e]
    by_cases e2 : j < k
    · rw [if_pos e2, if_pos (by omega)]
    · rw [if_neg e2, if_neg (by omega)]

set_option maxHeartbeats 2000000 in
theorem names_any (b len : Nat) (S : Nat → ByteArray) (L : Nat → Int) (T : Nat → Bool) (w : World) (h0 : 0 < len) (hl : len ≤ 32768) (hb : b < w.heap.size) (hx : (textL S len).length ≤ 140737488355328)
    (hc : ∀ j, j < len * 3 → w.cell? ⟨b, j, none⟩ = some (setC S L T j)) :
    Calls Try.prog 25 #[.slice (some ⟨b, 0, none⟩) len len] w fun e w' => e = .returned (.string ⟨(textL S len).toArray⟩) ∧ Below w.heap.size w w' := by
  have hmk := run_make_row' (P := Try.prog) 31 9 (.string ⟨#[]⟩) 16 Try.underlying31 info9 rfl .i64 .i64 len (by omega) (by omega)
  go_enter Try.func25, Try.ntmps25
  go_wp2
  go_loopw [4, 5, 11] (fun _ _ i wr => ∃ (k : Nat), k ≤ len ∧ i = .int .i64 k ∧ wr.rowIs w.heap.size 9 len (rowS S k) ∧ Below w.heap.size w wr) (fun _ _ i _ => len - (intOf i).toNat)
  case atStart => exact ⟨0, by omega, rfl, (World.rowIs_made w (.string ⟨#[]⟩) len 9).congr (fun i _ => by simp [rowS]), (Below.refl _ w).alloc (Nat.le_refl _) _⟩
  case round =>
    obtain ⟨k, hk, rfl, hrow, hbl⟩ := hrel
    by_cases hlt : k < len
    · have s0 : wr.cell? ⟨b, k * 3, none⟩ = some (.string (S k)) := by rw [hbl.cell (p := ⟨b, k * 3, none⟩) hb, hc (k * 3) (by omega), setC0]
      have s1 : wr.cell? ⟨b, k * 3 + 1, none⟩ = some (.int .i64 (L k)) := by rw [hbl.cell (p := ⟨b, k * 3 + 1, none⟩) hb, hc (k * 3 + 1) (by omega), setC1]
      have s2 : wr.cell? ⟨b, k * 3 + 2, none⟩ = some (.bool (T k)) := by rw [hbl.cell (p := ⟨b, k * 3 + 2, none⟩) hb, hc (k * 3 + 2) (by omega), setC2]
      obtain ⟨d0, q0⟩ : ∃ v, wr.cell? ⟨w.heap.size, k, none⟩ = some v := ⟨_, hrow.cell (by omega)⟩
      have hf : ∀ j, wr.frozen? ⟨w.heap.size, j, none⟩ = false := fun j => hrow.frozen j
      have hz : w.heap.size < wr.heap.size := hrow.lt
      have HR := hide hrow
      clear hrow hc hmk
      go_wp2
      go_roundw
      case rel => exact ⟨k + 1, by omega, by go_num, (rowS_set HR.out).alloc _, (hbl.setCell (p := ⟨w.heap.size, k, none⟩) (Nat.le_refl _) _).alloc (by simp; omega) _⟩
      case measure => simp [intOf]; omega
    · obtain rfl : k = len := by omega
      have hN : (namesL S k).length = k := by simp [namesL]
      have cj := Try.strings_Join w.heap.size 0 k (namesL S k) ⟨#[44, 32]⟩ wr (fun j x hx => by
        have hj : j < k := by
          have := (List.getElem?_eq_some_iff.1 hx).1
          omega
        simp [namesL, hj] at hx
        subst hx
        have := hrow.cell hj
        rw [Nat.zero_add, this]
        simp [rowS, hj]) hrow.lt (by omega) (by omega) hx
      rw [hN] at cj
      go_wp2_with (go_at_call 26; refine cj.mono ?_)
      first | rintro e w2 rfl b2 | rintro e w2 ⟨rfl, b2⟩
      go_wp2
      go_ret
      exact ⟨rfl, hbl.trans (b2.mono hbl.size)⟩
end Go.Proofs.Qxb6601293a
