import Derived.Test.Qxb6600183aLow
namespace Go.Proofs.Qxb6600183a
open Go.RowKit

/-- the contract that 'isLowerCopy_true' gives at a lowered copy -/
theorem isLow (s : ByteArray) (w : World) (hs : s.size ≤ 1048576) :
    Calls Try.prog 13 #[.string s, .string ⟨(low s).toArray⟩] w fun e w' => e = .returned (.bool true) ∧ Drew w w' := by
  have hz : (⟨(low s).toArray⟩ : ByteArray).size = s.size := low_len s
  refine isLowerCopy_true s ⟨(low s).toArray⟩ w (by unfold maxLen; omega) (by omega) (by omega) ?_
  intro k h h'
  rw [← lowU_nat]
  congr 2
  show (low s).toArray[k] = _
  simp [low]
  rfl
theorem Drew.below {w w' : World} (h : Drew w w') (B : Nat) : Below B w w' := by
  obtain ⟨n, rfl⟩ := h; exact ⟨rfl, rfl, rfl, Nat.le_refl _, fun _ _ => rfl⟩
theorem Drew.bld {w w' : World} (h : Drew w w') {B b : Nat} {l : List UInt8} (hb : Bld B b l w) : Bld B b l w' := by
  obtain ⟨n, rfl⟩ := h; exact hb

theorem cat_eq (a b : List UInt8) : (!a ++ b == ((⟨a.toArray⟩ : ByteArray) ++ ⟨b.toArray⟩).toList) = false := by
  rw [Lib.toList_data]
  have : ((⟨a.toArray⟩ : ByteArray) ++ ⟨b.toArray⟩).data.toList = a ++ b := by simp
  rw [this]; simp

set_option maxHeartbeats 1000000 in
theorem early5 (p q : ByteArray) (w : World) (hp : p.size ≤ maxLen) (hq : q.size ≤ maxLen) (h : ¬ p.size + q.size ≤ 1048576) :
    Calls Try.prog 5 #[.string p, .string q] w fun e w' => e = .returned (.bool true) ∧ Below w.heap.size w w' := by
  unfold maxLen at hp hq
  by_cases h1 : p.size ≤ 1048576
  · by_cases h2 : q.size ≤ 1048576
    · go_enter Try.func5, Try.ntmps5
      go_wp2
      go_ret
      exact ⟨rfl, Below.refl _ _⟩
    · go_enter Try.func5, Try.ntmps5
      go_wp2
      go_ret
      exact ⟨rfl, Below.refl _ _⟩
  · go_enter Try.func5, Try.ntmps5
    go_wp2
    go_ret
    exact ⟨rfl, Below.refl _ _⟩

set_option maxHeartbeats 1000000 in
theorem main5 (p q : ByteArray) (w : World) (h : p.size + q.size ≤ 1048576) :
    Calls Try.prog 5 #[.string p, .string q] w fun e w' => e = .returned (.bool true) ∧ Below w.heap.size w w' := by
  have b0 : Below w.heap.size w (w.alloc (.cells #[.pointer none, .slice none 0 0] 39)) := (Below.refl _ w).alloc (Nat.le_refl _) _
  have c0 := lowered_fresh p w.heap.size w.heap.size (w.alloc (.cells #[.pointer none, .slice none 0 0] 39)) (Nat.le_refl _) (by omega) (heap_alloc_new w _) b0.size
  go_enter Try.func5, Try.ntmps5
  go_wp2_with (first | (go_at_call 31; refine c0.mono ?_) | (go_at_call 19; go_in) | (go_at_call 10; go_in) | (go_at_call 20; go_in))
  clear c0
  rintro e w1 ⟨rfl, h1, b1⟩
  have c1 := string_any w.heap.size w.heap.size (low p) w1 h1
  go_wp2_with (first | (go_at_call 15; refine c1.mono ?_) )
  clear c1
  rintro e w2 ⟨rfl, h2, b2⟩
  have hz2 : w.heap.size ≤ w2.heap.size := Nat.le_trans b0.size (Nat.le_trans b1.size b2.size)
  have c2 := lowered_grown q w.heap.size w.heap.size (low p) w2 (by omega) (by rw [low_len]; omega) h2 hz2
  go_wp2_with (first | (go_at_call 31; refine c2.mono ?_) | (go_at_call 20; go_in))
  clear c2
  rintro e w3 ⟨rfl, h3, b3⟩
  have c3 := isLow q w3 (by omega)
  go_wp2_with (first | (go_at_call 13; refine c3.mono ?_))
  clear c3
  rintro e w4 ⟨rfl, d4⟩
  have h4 := d4.bld h3
  have hz4 : w.heap.size ≤ w4.heap.size := Nat.le_trans hz2 (Nat.le_trans b3.size (d4.below 0).size)
  have c4 := turn (Try.Builder_Len_f w.heap.size w.heap.size (Lib.byteCells (low p ++ low q)) w4 h4.1)
  rw [Lib.byteCells_length, List.length_append, low_len, low_len] at c4
  go_wp2_with (first | (go_at_call 16; refine c4.mono ?_))
  clear c4
  rintro e w' ⟨rfl, rfl⟩
  have c5 := string_any w.heap.size w.heap.size (low p ++ low q) w4 h4
  go_wp2_with (first | (go_at_call 15; refine c5.mono ?_))
  clear c5
  rintro e w5 ⟨rfl, h5, b5⟩
  have hcat := cat_eq (low p) (low q)
  have hbd : (low p).length + (low q).length ≤ 9223372036854775807 := by rw [low_len, low_len]; omega
  have c6 := isLow p w5 (by omega)
  go_wp2_with (first | (go_at_call 13; refine c6.mono ?_))
  clear c6
  rintro e w6 ⟨rfl, d6⟩
  go_wp2
  go_ret
  exact ⟨rfl, ((((b0.trans b1).trans b2).trans b3).trans (d4.below _)).trans (b5.trans (d6.below _))⟩

theorem walk5 (p q : ByteArray) (w : World) (hp : p.size ≤ maxLen) (hq : q.size ≤ maxLen) :
    Calls Try.prog 5 #[.string p, .string q] w fun e w' => e = .returned (.bool true) ∧ Below w.heap.size w w' := by
  by_cases h : p.size + q.size ≤ 1048576
  · exact main5 p q w h
  · exact early5 p q w hp hq h
end Go.Proofs.Qxb6600183a
