import Derived.Test.Qxb6601306aSpell
import Derived.Deep.OwnRows
import Derived.Lib.SliceRun
namespace Go.Proofs.Qxb6601306a
open Go.RowKit

theorem ret_bool {a b : Bool} (h : a = b) : Ending.returned (.bool a) = .returned (.bool b) := by rw [h]
def Ans (e : Ending) : Prop := ∃ r, e = .returned (.bool r)
theorem ans (r : Bool) : Ans (.returned (.bool r)) := ⟨r, rfl⟩
def digB (c : Int) : Bool := decide (48 ≤ c ∧ c ≤ 57)
theorem digB_t {c : Int} (h : 48 ≤ c ∧ c ≤ 57) : digB c = true := by simp [digB, h]
theorem digB_f {c : Int} (h : ¬ (48 ≤ c ∧ c ≤ 57)) : digB c = false := by simp only [digB, h, decide_false]

set_option maxHeartbeats 400000 in
theorem isDigit_any (c : Int) (w : World) :
    Calls Try.prog 27 #[.int .u8 c] w fun e w' => e = .returned (.bool (digB c)) ∧ w = w' := by
  by_cases h1 : 48 ≤ c
  · by_cases h2 : c ≤ 57
    · go_enter Try.func27, Try.ntmps27
      go_wp2
      go_ret
      exact ⟨ret_bool (digB_t ⟨h1, h2⟩).symm, rfl⟩
    · go_enter Try.func27, Try.ntmps27
      go_wp2
      go_ret
      exact ⟨ret_bool (digB_f (by omega)).symm, rfl⟩
  · go_enter Try.func27, Try.ntmps27
    go_wp2
    go_ret
    exact ⟨ret_bool (digB_f (by omega)).symm, rfl⟩

/-- an answer: a number from 0 to n -/
def AnsNum (n : Nat) (e : Ending) : Prop := ∃ r : Nat, e = .returned (.int .i64 r) ∧ r ≤ n
set_option maxHeartbeats 400000 in
theorem count_any (t : ByteArray) (w : World) (hs : t.size ≤ 1048576) :
    Calls Try.prog 22 #[.string t] w fun e w' => AnsNum t.size e ∧ w = w' := by
  go_enter Try.func22, Try.ntmps22
  go_wp2
  go_loop [3, 4] (fun n i => ∃ k r : Nat, r ≤ k ∧ k ≤ t.size ∧ i = .int .i64 k ∧ n = .int .i64 r) (fun _ i => t.size - (intOf i).toNat)
  case atStart => exact ⟨0, 0, by omega, by omega, rfl, rfl⟩
  case round =>
    obtain ⟨k, r, hr, hk, rfl, rfl⟩ := hrel
    by_cases hlt : k + 1 < t.size
    · have hlt' : k < t.size := by omega
      cases hd : (((t[k]'hlt').toNat : Int) == 36)
      · go_wp2_with (go_at_call 27; refine (isDigit_any _ _).mono ?_; rintro e _ ⟨rfl, rfl⟩)
        go_round
        case rel => exact ⟨k + 1, r, by omega, by omega, by go_num, rfl⟩
        case measure => simp [intOf]; omega
      · cases hg : digB ((t[k + 1]'hlt).toNat : Int)
        · go_wp2_with (go_at_call 27; refine (isDigit_any _ _).mono ?_; rintro e _ ⟨rfl, rfl⟩)
          go_round
          case rel => exact ⟨k + 1, r, by omega, by omega, by go_num, rfl⟩
          case measure => simp [intOf]; omega
        · go_wp2_with (go_at_call 27; refine (isDigit_any _ _).mono ?_; rintro e _ ⟨rfl, rfl⟩)
          go_round
          case rel => exact ⟨k + 1, r + 1, by omega, by omega, by go_num, by go_num⟩
          case measure => simp [intOf]; omega
    · go_wp2
      go_ret
      exact ⟨⟨r, rfl, by omega⟩, rfl⟩

set_option maxHeartbeats 400000 in
theorem fits_any (a n c : Nat) (w : World) (ha : a ≤ 1048576) (hn : n ≤ 1048576) :
    Calls Try.prog 21 #[.int .i64 a, .int .i64 n, .int .i64 c] w fun e w' => Ans e ∧ w = w' := by
  cases h0 : ((n : Int) == 0)
  · have hn0 : (n : Int) ≠ 0 := by simpa using h0
    go_enter Try.func21, Try.ntmps21
    go_wp2
    go_ret
    exact ⟨ans _, rfl⟩
  · go_enter Try.func21, Try.ntmps21
    go_wp2
    go_ret
    exact ⟨ans _, rfl⟩
end Go.Proofs.Qxb6601306a
