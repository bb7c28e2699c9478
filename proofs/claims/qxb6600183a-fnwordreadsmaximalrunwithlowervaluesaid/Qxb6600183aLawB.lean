import Derived.Test.Qxb6600183aLawA
import Derived.Test.Qxb6600183aCase
namespace Go.Proofs.Qxb6600183a
open Go.RowKit

theorem all_bytes {p : UInt8 → Prop} (h : ∀ c : Fin 256, p (UInt8.ofNat c.val)) (c : UInt8) : p c := by
  have := h ⟨c.toNat, c.toNat_lt⟩
  simpa using this
theorem low_low : ∀ c : UInt8, lowU (lowU c) = lowU c := all_bytes (by decide +kernel)
theorem low_upU : ∀ c : UInt8, lowU (upU c) = lowU c := all_bytes (by decide +kernel)
theorem low_flU : ∀ c : UInt8, lowU (flU c) = lowU c := all_bytes (by decide +kernel)
theorem low_of_map (s : ByteArray) (f : UInt8 → UInt8) (h : ∀ c, lowU (f c) = lowU c) : low ⟨(s.data.toList.map f).toArray⟩ = low s := by
  simp [low, h]

theorem map_size (s : ByteArray) (f : UInt8 → UInt8) : (⟨(s.data.toList.map f).toArray⟩ : ByteArray).size = s.size := by
  show (s.data.toList.map f).length = _; rw [List.length_map]; rfl
theorem low_again (s : ByteArray) : low ⟨(low s).toArray⟩ = low s := low_of_map s lowU low_low

set_option maxHeartbeats 400000 in
theorem hasCapital_false (g : ByteArray) (w : World) (hs : g.size ≤ maxLen)
    (hg : Hid (∀ (k : Nat) (h : k < g.size), small ((g[k]'h).toNat : Int) = ((g[k]'h).toNat : Int))) :
    Calls Try.prog 14 #[.string g] w fun e w' => e = .returned (.bool false) ∧ Drew w w' := by
  unfold maxLen at hs
  go_enter Try.func14, Try.ntmps14
  go_wp2
  go_loopw [2, 3] (fun r i wr => ∃ k : Nat, k ≤ g.size ∧ i = .int .i64 k ∧ Drew w wr) (fun _ i _ => g.size - (intOf i).toNat)
  case atStart => exact ⟨0, by omega, rfl, Drew.refl w⟩
  case round =>
    obtain ⟨k, hk, rfl, hd⟩ := hrel
    by_cases hlt : k < g.size
    · go_wp2
      go_quiet ((go_at_call 29; exact Calls.quiet_of_same (smallOf_any _ _)))
      have hne : (small ((g[k]'hlt).toNat : Int) != ((g[k]'hlt).toNat : Int)) = false := by
        rw [hg.out k hlt]; simp
      go_wp2
      go_roundw
      case rel => exact ⟨k + 1, by omega, by go_num, hd.on nq⟩
      case measure => simp [intOf]; omega
    · go_wp2
      go_ret
      exact ⟨rfl, hd⟩

theorem low_nocap (s : ByteArray) (w : World) (hs : s.size ≤ 1048576) :
    Calls Try.prog 14 #[.string ⟨(low s).toArray⟩] w fun e w' => e = .returned (.bool false) ∧ Drew w w' := by
  have hz : (⟨(low s).toArray⟩ : ByteArray).size = s.size := low_len s
  refine hasCapital_false ⟨(low s).toArray⟩ w (by unfold maxLen; omega) ?_
  intro k h
  rw [← lowU_nat]
  congr 2
  have : (⟨(low s).toArray⟩ : ByteArray)[k] = lowU (s[k]'(by omega)) := by
    show (low s).toArray[k] = _
    simp [low]
    rfl
  rw [this, low_low]

theorem early6 (s : ByteArray) (w : World) (hs : s.size ≤ maxLen) (h : ¬ s.size ≤ 1048576) :
    Calls Try.prog 6 #[.string s] w fun e w' => e = .returned (.bool true) ∧ Below w.heap.size w w' := by
  unfold maxLen at hs
  go_enter Try.func6, Try.ntmps6
  go_wp2
  go_ret
  exact ⟨rfl, Below.refl _ _⟩

set_option maxHeartbeats 1000000 in
theorem main6 (s : ByteArray) (w : World) (h : s.size ≤ 1048576) :
    Calls Try.prog 6 #[.string s] w fun e w' => e = .returned (.bool true) ∧ Below w.heap.size w w' := by
  have b0 : Below w.heap.size w (w.alloc (.cells #[.pointer none, .slice none 0 0] 39)) := (Below.refl _ w).alloc (Nat.le_refl _) _
  have c0 := lowered_fresh s w.heap.size w.heap.size (w.alloc (.cells #[.pointer none, .slice none 0 0] 39)) (Nat.le_refl _) (by omega) (heap_alloc_new w _) b0.size
  have hll : (low s).length = s.size := low_len s
  have HLL := hide hll
  have hne : (((low s).length : Int) != (s.size : Int)) = false := by rw [hll]; simp
  have hl1 : (low s).length ≤ s.size := by omega
  have hl2 : s.size ≤ (low s).length := by omega
  clear hll
  go_enter Try.func6, Try.ntmps6
  go_wp2_with (first | (go_at_call 31; refine c0.mono ?_) | (go_at_call 21; go_in) | (go_at_call 10; go_in) | (go_at_call 20; go_in))
  clear c0
  rintro e w1 ⟨rfl, h1, b1⟩
  have hz1 : w.heap.size ≤ w1.heap.size := Nat.le_trans b0.size b1.size
  have c1 := low_nocap s w1 h
  go_wp2_with (first | (go_at_call 14; refine c1.mono ?_) )
  clear c1
  rintro e w2 ⟨rfl, d2⟩
  have h2 := d2.bld h1
  have hz2 : w.heap.size ≤ w2.heap.size := Nat.le_trans hz1 (d2.below 0).size
  have c2 := lowered_grown ⟨(low s).toArray⟩ w.heap.size w.heap.size (low s) w2 (show (low s).length ≤ _ by omega) (by omega) h2 hz2
  rw [low_again s] at c2
  go_wp2_with (first | (go_at_call 31; refine c2.mono ?_) | (go_at_call 20; go_in))
  clear c2
  rintro e w3 ⟨rfl, h3, b3⟩
  have c3 := upperAll_any s w3 h
  go_wp2_with (first | (go_at_call 22; refine c3.mono ?_))
  clear c3
  rintro e w4 ⟨rfl, b4⟩
  have h4 := h3.below b4
  have hz3 : w.heap.size ≤ w3.heap.size := Nat.le_trans hz2 b3.size
  have hz4 : w.heap.size ≤ w4.heap.size := Nat.le_trans hz3 b4.size
  have c4 := lowered_grown ⟨(s.data.toList.map upU).toArray⟩ w.heap.size w.heap.size (low s ++ low s) w4 (by rw [map_size]; exact h) (by simp; omega) h4 hz4
  rw [low_of_map s upU low_upU] at c4
  go_wp2_with (first | (go_at_call 31; refine c4.mono ?_) | (go_at_call 20; go_in))
  clear c4
  rintro e w5 ⟨rfl, h5, b5⟩
  have c5 := flipCase_any s w5 h
  go_wp2_with (first | (go_at_call 18; refine c5.mono ?_))
  clear c5
  rintro e w6 ⟨rfl, b6⟩
  have h6 := h5.below b6
  have hz5 : w.heap.size ≤ w5.heap.size := Nat.le_trans hz4 b5.size
  have hz6 : w.heap.size ≤ w6.heap.size := Nat.le_trans hz5 b6.size
  have c6 := lowered_grown ⟨(s.data.toList.map flU).toArray⟩ w.heap.size w.heap.size (low s ++ low s ++ low s) w6 (by rw [map_size]; exact h) (by simp; omega) h6 hz6
  rw [low_of_map s flU low_flU] at c6
  go_wp2_with (first | (go_at_call 31; refine c6.mono ?_) | (go_at_call 20; go_in))
  clear c6
  rintro e w7 ⟨rfl, h7, b7⟩
  go_wp2
  go_ret
  exact ⟨rfl, (((((b0.trans b1).trans (d2.below _)).trans b3).trans (b4.mono hz3)).trans b5).trans ((b6.mono hz5).trans b7)⟩

theorem walk6 (s : ByteArray) (w : World) (hs : s.size ≤ maxLen) :
    Calls Try.prog 6 #[.string s] w fun e w' => e = .returned (.bool true) ∧ Below w.heap.size w w' := by
  by_cases h : s.size ≤ 1048576
  · exact main6 s w h
  · exact early6 s w hs h
end Go.Proofs.Qxb6600183a
