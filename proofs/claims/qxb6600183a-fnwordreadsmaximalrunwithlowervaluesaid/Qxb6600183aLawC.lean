import Derived.Test.Qxb6600183aWord4
namespace Go.Proofs.Qxb6600183a
open Go.RowKit

theorem early3 (s : ByteArray) (w : World) (hs : s.size ≤ maxLen) (h : ¬ s.size ≤ 1048576) :
    Calls Try.prog 3 #[.string s] w fun e w' => e = .returned (.bool true) ∧ Below w.heap.size w w' := by
  unfold maxLen at hs
  go_enter Try.func3, Try.ntmps3
  go_wp2
  go_ret
  exact ⟨rfl, Below.refl _ _⟩
theorem empty3 (s : ByteArray) (w : World) (h : s.size ≤ 0) :
    Calls Try.prog 3 #[.string s] w fun e w' => e = .returned (.bool true) ∧ Below w.heap.size w w' := by
  have h' : ((s.size : Int) == 0) = true := by rw [beq_iff_eq]; omega
  go_enter Try.func3, Try.ntmps3
  go_wp2
  go_ret
  exact ⟨rfl, Below.refl _ _⟩

theorem Drew.fresh {w w' : World} (h : Drew w w') {b : Nat} {o : Obj} (hb : w.heap[b]? = some o) : w'.heap[b]? = some o := by
  obtain ⟨n, rfl⟩ := h; exact hb
theorem fresh_at {b : Nat} {w : World} (h : w.heap[b]? = some (.cells #[.pointer none, .slice none 0 0] 39 (0, 0))) : Lib.IsBuilderF 39 5 b b [] w :=
  .inl ⟨Nat.le_refl _, .slice none 0 0, h, World.ownsRowF_nil _ _ _ _, by simp [Value.ownBlock]⟩

set_option maxHeartbeats 2000000 in
theorem main3 (s : ByteArray) (w : World) (h0 : 0 < s.size) (h : s.size ≤ 1048576) :
    Calls Try.prog 3 #[.string s] w fun e w' => e = .returned (.bool true) ∧ Below w.heap.size w w' := by
  have b0 : Below w.heap.size w (w.alloc (.cells #[.pointer none, .slice none 0 0] 39)) := (Below.refl _ w).alloc (Nat.le_refl _) _
  have c0 := zzword_any s w.heap.size w.heap.size (w.alloc (.cells #[.pointer none, .slice none 0 0] 39)) h0 (by omega) (Nat.le_refl _) (heap_alloc_new w _) b0.size
  have hd3 : decide (1048576 < (s.size : Int)) = false := by rw [decide_eq_false_iff_not]; omega
  go_enter Try.func3, Try.ntmps3
  go_wp2_with (first | (go_at_call 11; refine c0.mono ?_) | (go_at_call 9; go_in) | (go_at_call 10; go_in))
  clear c0
  rintro e w1 hz
  obtain ⟨t, v, ⟨n1, n2, n3, n4, n5⟩, rfl, b1, hor⟩ := zpost2 hz
  clear hz
  have hcmp : (!t.toList == (s.extract 0 t.size).toList) = false := by rw [← n5]; simp
  have hd1 : decide ((t.size : Int) < 1) = false := by rw [decide_eq_false_iff_not]; omega
  have hd2 : decide (s.size < t.size) = false := by rw [decide_eq_false_iff_not]; omega
  have HN := hide (And.intro n3 n4)
  clear n3 n4 n5
  have HO := hide hor
  clear hor
  have HB := hide b1
  clear b1
  go_wp2_with fail
  go_loop [2, 8] (fun _ i => ∃ j : Nat, 1 ≤ j ∧ j ≤ t.size ∧ i = .int .i64 j) (fun _ i => t.size - (intOf i).toNat)
  case atStart => exact ⟨1, by omega, by omega, rfl⟩
  case round =>
    obtain ⟨j, hj1, hj2, rfl⟩ := hrel
    by_cases hlt : j < t.size
    · have hwd : wdB ((t[j]'hlt).toNat : Int) = true := HN.out.1 j hlt hj1
      go_wp2_with (go_at_call 12; refine (isWordByte_any _ _).mono ?_; rintro e w' ⟨rfl, rfl⟩)
      go_round
      case rel => exact ⟨j + 1, by omega, by omega, by go_num⟩
      case measure => simp [intOf]; omega
    · have fin : ∀ w2, Drew w1 w2 → Below w.heap.size w w2 := fun w2 d => (b0.trans HB.out).trans (d.below _)
      have HF := hide fin
      clear fin
      by_cases hn : t.size < s.size
      · have hwd : wdB ((s[t.size]'hn).toNat : Int) = false := HN.out.2 hn
        rcases HO.out with ⟨hc, rfl, hb⟩ | ⟨hc, rfl, hb⟩
        · have c1 := fun W => isLow t W (by omega)
          have c2 := fun W => hasCapital_true t W (by unfold maxLen; omega) hc
          have HBd := hide hb
          clear hb
          go_wp2_with (first | (go_at_call 12; refine (isWordByte_any _ _).mono ?_; rintro e w' ⟨rfl, rfl⟩) | (go_at_call 13; refine (c1 _).mono ?_))
          first | rintro e w2 rfl d2 | rintro e w2 ⟨rfl, d2⟩
          go_wp2_with (go_at_call 14; refine (c2 _).mono ?_)
          first | rintro e w3 rfl d3 | rintro e w3 ⟨rfl, d3⟩
          have c3 := string_any w.heap.size w.heap.size (low t) w3 (d3.bld (d2.bld HBd.out))
          clear c1 c2
          go_wp2_with (go_at_call 15; refine c3.mono ?_)
          first | rintro e w4 rfl _ b4 | rintro e w4 ⟨rfl, _, b4⟩
          go_wp2
          go_ret
          exact ⟨rfl, ((HF.out w2 d2).trans (d3.below _)).trans b4⟩
        · have c1 := fun W => isLow_same v W (by omega) hc
          have c2 := fun W => hasCapital_false v W (by unfold maxLen; omega) hc
          have HBd := hide hb
          clear hb
          go_wp2_with (first | (go_at_call 12; refine (isWordByte_any _ _).mono ?_; rintro e w' ⟨rfl, rfl⟩) | (go_at_call 13; refine (c1 _).mono ?_))
          first | rintro e w2 rfl d2 | rintro e w2 ⟨rfl, d2⟩
          go_wp2_with (go_at_call 14; refine (c2 _).mono ?_)
          first | rintro e w3 rfl d3 | rintro e w3 ⟨rfl, d3⟩
          have c3 := turn (Try.Builder_Len_f w.heap.size w.heap.size [] w3 (fresh_at (d3.fresh (d2.fresh HBd.out))))
          clear c1 c2
          go_wp2_with (go_at_call 16; refine c3.mono ?_; rintro e w' ⟨rfl, rfl⟩)
          go_ret
          exact ⟨rfl, (HF.out w2 d2).trans (d3.below _)⟩
      · rcases HO.out with ⟨hc, rfl, hb⟩ | ⟨hc, rfl, hb⟩
        · have c1 := fun W => isLow t W (by omega)
          have c2 := fun W => hasCapital_true t W (by unfold maxLen; omega) hc
          have HBd := hide hb
          clear hb
          go_wp2_with (first | (go_at_call 12; refine (isWordByte_any _ _).mono ?_; rintro e w' ⟨rfl, rfl⟩) | (go_at_call 13; refine (c1 _).mono ?_))
          first | rintro e w2 rfl d2 | rintro e w2 ⟨rfl, d2⟩
          go_wp2_with (go_at_call 14; refine (c2 _).mono ?_)
          first | rintro e w3 rfl d3 | rintro e w3 ⟨rfl, d3⟩
          have c3 := string_any w.heap.size w.heap.size (low t) w3 (d3.bld (d2.bld HBd.out))
          clear c1 c2
          go_wp2_with (go_at_call 15; refine c3.mono ?_)
          first | rintro e w4 rfl _ b4 | rintro e w4 ⟨rfl, _, b4⟩
          go_wp2
          go_ret
          exact ⟨rfl, ((HF.out w2 d2).trans (d3.below _)).trans b4⟩
        · have c1 := fun W => isLow_same v W (by omega) hc
          have c2 := fun W => hasCapital_false v W (by unfold maxLen; omega) hc
          have HBd := hide hb
          clear hb
          go_wp2_with (first | (go_at_call 12; refine (isWordByte_any _ _).mono ?_; rintro e w' ⟨rfl, rfl⟩) | (go_at_call 13; refine (c1 _).mono ?_))
          first | rintro e w2 rfl d2 | rintro e w2 ⟨rfl, d2⟩
          go_wp2_with (go_at_call 14; refine (c2 _).mono ?_)
          first | rintro e w3 rfl d3 | rintro e w3 ⟨rfl, d3⟩
          have c3 := turn (Try.Builder_Len_f w.heap.size w.heap.size [] w3 (fresh_at (d3.fresh (d2.fresh HBd.out))))
          clear c1 c2
          go_wp2_with (go_at_call 16; refine c3.mono ?_; rintro e w' ⟨rfl, rfl⟩)
          go_ret
          exact ⟨rfl, (HF.out w2 d2).trans (d3.below _)⟩

theorem walk3 (s : ByteArray) (w : World) (hs : s.size ≤ maxLen) :
    Calls Try.prog 3 #[.string s] w fun e w' => e = .returned (.bool true) ∧ Below w.heap.size w w' := by
  by_cases h : s.size ≤ 1048576
  · by_cases h0 : 0 < s.size
    · exact main3 s w h0 h
    · exact empty3 s w (by omega)
  · exact early3 s w hs h
end Go.Proofs.Qxb6600183a
