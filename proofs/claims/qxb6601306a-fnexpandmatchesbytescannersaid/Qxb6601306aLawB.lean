import Derived.Test.Qxb6601306aExp5
namespace Go.Proofs.Qxb6601306a
open Go.RowKit

set_option maxHeartbeats 1000000 in
theorem early7 (T s : ByteArray) (a : Option Addr) (len cap : Nat) (w : World) (hT : T.size ≤ maxLen) (hs : s.size ≤ maxLen) (hl : len ≤ maxLen) (h : ¬ T.size + s.size + len ≤ 1048576) :
    Calls Try.prog 7 #[.string T, .string s, .slice a len cap] w fun e w' => e = .returned (.bool true) ∧ Below w.heap.size w w' := by
  unfold maxLen at hT hs hl
  go_enter Try.func7, Try.ntmps7
  go_wp2
  all_goals
    go_ret
    exact ⟨rfl, Below.refl _ _⟩

set_option maxHeartbeats 1000000 in
theorem long7 (T s : ByteArray) (a : Option Addr) (len cap : Nat) (w : World) (h : T.size + s.size + len ≤ 1048576) (hl : ¬ len ≤ 131072) :
    Calls Try.prog 7 #[.string T, .string s, .slice a len cap] w fun e w' => e = .returned (.bool true) ∧ Below w.heap.size w w' := by
  go_enter Try.func7, Try.ntmps7
  go_wp2
  go_ret
  exact ⟨rfl, Below.refl _ _⟩

set_option maxHeartbeats 1000000 in
theorem main7 (T s : ByteArray) (a : Option Addr) (len cap : Nat) (Z : Nat → Int) (w : World) (h : T.size + s.size + len ≤ 1048576) (hl : len ≤ 131072) (hi : IsInts w a len Z) :
    Calls Try.prog 7 #[.string T, .string s, .slice a len cap] w fun e w' => e = .returned (.bool true) ∧ Below w.heap.size w w' := by
  have c1 := valid_any s a len cap Z w (by omega) (by omega) hi
  have c2 := count_any T w (by omega)
  go_enter Try.func7, Try.ntmps7
  go_wp2_with (first | (go_at_call 19; go_in) | (go_at_call 20; refine c1.mono ?_))
  first | rintro e _ ⟨⟨r, rfl, hr⟩, rfl⟩ | rintro e ⟨r, rfl, hr⟩
  clear c1
  cases r
  · go_wp2
    go_ret
    exact ⟨rfl, Below.refl _ _⟩
  · have hv := hr rfl
    clear hr
    have HV := hide hv
    clear hv
    go_wp2_with (go_at_call 22; refine c2.mono ?_)
    first | rintro e _ ⟨⟨n, rfl, hn⟩, rfl⟩ | rintro e ⟨n, rfl, hn⟩
    clear c2
    have c3 := fits_any T.size n s.size w (by omega) (by omega)
    go_wp2_with (go_at_call 21; refine c3.mono ?_)
    first | rintro e _ ⟨⟨r, rfl⟩, rfl⟩ | rintro e ⟨r, rfl⟩
    clear c3
    cases r
    · go_wp2
      go_ret
      exact ⟨rfl, Below.refl _ _⟩
    · have c4 := clone_any a len cap Z w (by omega) hi
      clear hi
      go_wp2_with (go_at_call 23; refine c4.mono ?_)
      rintro e w1 ⟨⟨a', cap', rfl, hi1⟩, b1⟩
      clear c4
      have c5 := expand_any T s a' len cap' Z w1 (by omega) (by omega) HV.out hi1
      have HI := hide hi1
      clear hi1
      go_wp2_with (first | (go_at_call 24; go_in) | (go_at_call 31; refine c5.mono ?_))
      first | rintro e w2 rfl b2 | rintro e w2 ⟨rfl, b2⟩
      clear c5
      have c6 := model_any T s a' len cap' Z w2 (by omega) (by omega) (by omega) HV (HI.out.below b2)
      go_wp2_with (go_at_call 25; refine c6.mono ?_)
      first | rintro e w3 rfl b3 | rintro e w3 ⟨rfl, b3⟩
      clear c6
      go_wp2
      go_ret
      exact ⟨rfl, b1.trans ((b2.mono b1.size).trans (b3.mono (Nat.le_trans b1.size b2.size)))⟩

theorem walk7 (T s : ByteArray) (a : Option Addr) (len cap : Nat) (Z : Nat → Int) (w : World) (hT : T.size ≤ maxLen) (hs : s.size ≤ maxLen) (hl : len ≤ maxLen) (hi : IsInts w a len Z) :
    Calls Try.prog 7 #[.string T, .string s, .slice a len cap] w fun e w' => e = .returned (.bool true) ∧ Below w.heap.size w w' := by
  by_cases h : T.size + s.size + len ≤ 1048576
  · by_cases h2 : len ≤ 131072
    · exact main7 T s a len cap Z w h h2 hi
    · exact long7 T s a len cap w h h2
  · exact early7 T s a len cap w hT hs hl h
end Go.Proofs.Qxb6601306a
