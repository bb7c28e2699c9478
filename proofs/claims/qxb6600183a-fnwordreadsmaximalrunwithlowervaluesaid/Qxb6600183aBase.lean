import Derived.Test.Qxb6600183aRows
import Derived.WalkKit
import Derived.Below
import Derived.Outline
import Derived.WalkSpells
import Derived.WalkLawsBesides
import Derived.Deep.QuietTactic
import Derived.BigQuiet
namespace Go.Proofs.Qxb6600183a
open Go.RowKit

/-- the small letter of a capital; every other number itself -/
def small (c : Int) : Int := if 65 ≤ c ∧ c ≤ 90 then c + 32 else c
/-- the capital of a small letter; every other number itself -/
def capital (c : Int) : Int := if 97 ≤ c ∧ c ≤ 122 then c - 32 else c

theorem ret_int {k : IntKind} {a b : Int} (h : a = b) : Ending.returned (.int k a) = .returned (.int k b) := by rw [h]
theorem ret_bool {a b : Bool} (h : a = b) : Ending.returned (.bool a) = .returned (.bool b) := by rw [h]

def caps : ByteArray := ⟨#[65, 66, 67, 68, 69, 70, 71, 72, 73, 74, 75, 76, 77, 78, 79, 80, 81, 82, 83, 84, 85, 86, 87, 88, 89, 90]⟩
def smls : ByteArray := ⟨#[97, 98, 99, 100, 101, 102, 103, 104, 105, 106, 107, 108, 109, 110, 111, 112, 113, 114, 115, 116, 117, 118, 119, 120, 121, 122]⟩
theorem caps_fin : ∀ k : Fin 26, (caps[k.val]'k.isLt).toNat = 65 + k.val := by decide +kernel
theorem smls_fin : ∀ k : Fin 26, (smls[k.val]'k.isLt).toNat = 97 + k.val := by decide +kernel
theorem caps_at (k : Nat) (h : k < 26) : ((⟨#[65, 66, 67, 68, 69, 70, 71, 72, 73, 74, 75, 76, 77, 78, 79, 80, 81, 82, 83, 84, 85, 86, 87, 88, 89, 90]⟩ : ByteArray)[k]'h).toNat = 65 + k := caps_fin ⟨k, h⟩
theorem smls_at (k : Nat) (h : k < 26) : ((⟨#[97, 98, 99, 100, 101, 102, 103, 104, 105, 106, 107, 108, 109, 110, 111, 112, 113, 114, 115, 116, 117, 118, 119, 120, 121, 122]⟩ : ByteArray)[k]'h).toNat = 97 + k := smls_fin ⟨k, h⟩

theorem small_hit (c : Int) (k : Nat) (hk : k < 26) (h : ((65 + k : Nat) : Int) = c) : ((97 + k : Nat) : Int) = small c := by
  unfold small; rw [if_pos (by omega)]; omega
theorem small_miss (c : Int) (h : ∀ j : Nat, j < 26 → c ≠ 65 + j) : c = small c := by
  unfold small; rw [if_neg]; intro hc; exact h (c - 65).toNat (by omega) (by omega)
theorem capital_hit (c : Int) (k : Nat) (hk : k < 26) (h : ((97 + k : Nat) : Int) = c) : ((65 + k : Nat) : Int) = capital c := by
  unfold capital; rw [if_pos (by omega)]; omega
theorem capital_miss (c : Int) (h : ∀ j : Nat, j < 26 → c ≠ 97 + j) : c = capital c := by
  unfold capital; rw [if_neg]; intro hc; exact h (c - 97).toNat (by omega) (by omega)

set_option maxHeartbeats 400000 in
theorem smallOf_any (c : Int) (w : World) :
    Calls Try.prog 29 #[.int .u8 c] w fun e w' => e = .returned (.int .u8 (small c)) ∧ w' = w := by
  go_enter Try.func29, Try.ntmps29
  go_wp2
  go_loop [2, 3] (fun r i => ∃ k : Nat, k ≤ 26 ∧ i = .int .i64 k ∧ r = .int .u8 0 ∧ ∀ j : Nat, j < k → c ≠ 65 + j) (fun _ i => 26 - (intOf i).toNat)
  case atStart => exact ⟨0, by omega, rfl, rfl, by omega⟩
  case round =>
    obtain ⟨k, hk, rfl, rfl, hj⟩ := hrel
    have HJ : Hid (∀ j : Nat, j < k → c ≠ 65 + j) := hj
    clear hj
    by_cases hlt : k < 26
    · go_wp2
      · have h := ‹_ = true›
        rw [caps_at k hlt, beq_iff_eq] at h
        go_ret
        exact ⟨ret_int (by rw [smls_at k hlt]; exact small_hit c k hlt h), rfl⟩
      · have h := ‹_ = false›
        rw [caps_at k hlt, beq_eq_false_iff_ne] at h
        go_round
        case rel => exact ⟨k + 1, by omega, by go_num, rfl, fun j hj => by
          by_cases e : j = k
          · omega
          · exact HJ.out j (by omega)⟩
        case measure => simp [intOf]; omega
    · go_wp2
      go_ret
      exact ⟨ret_int (small_miss c (fun j hj => HJ.out j (by omega))), rfl⟩

set_option maxHeartbeats 400000 in
theorem capitalOf_any (c : Int) (w : World) :
    Calls Try.prog 30 #[.int .u8 c] w fun e w' => e = .returned (.int .u8 (capital c)) ∧ w' = w := by
  go_enter Try.func30, Try.ntmps30
  go_wp2
  go_loop [2, 3] (fun r i => ∃ k : Nat, k ≤ 26 ∧ i = .int .i64 k ∧ r = .int .u8 0 ∧ ∀ j : Nat, j < k → c ≠ 97 + j) (fun _ i => 26 - (intOf i).toNat)
  case atStart => exact ⟨0, by omega, rfl, rfl, by omega⟩
  case round =>
    obtain ⟨k, hk, rfl, rfl, hj⟩ := hrel
    have HJ : Hid (∀ j : Nat, j < k → c ≠ 97 + j) := hj
    clear hj
    by_cases hlt : k < 26
    · go_wp2
      · have h := ‹_ = true›
        rw [smls_at k hlt, beq_iff_eq] at h
        go_ret
        exact ⟨ret_int (by rw [caps_at k hlt]; exact capital_hit c k hlt h), rfl⟩
      · have h := ‹_ = false›
        rw [smls_at k hlt, beq_eq_false_iff_ne] at h
        go_round
        case rel => exact ⟨k + 1, by omega, by go_num, rfl, fun j hj => by
          by_cases e : j = k
          · omega
          · exact HJ.out j (by omega)⟩
        case measure => simp [intOf]; omega
    · go_wp2
      go_ret
      exact ⟨ret_int (capital_miss c (fun j hj => HJ.out j (by omega))), rfl⟩

def upB (c : Int) : Bool := decide (65 ≤ c ∧ c ≤ 90)
set_option maxHeartbeats 400000 in
theorem isUpper_any (c : Int) (w : World) :
    Calls Try.prog 34 #[.int .u8 c] w fun e w' => e = .returned (.bool (upB c)) ∧ w' = w := by
  go_enter Try.func34, Try.ntmps34
  by_cases h1 : 65 ≤ c
  · by_cases h2 : c ≤ 90
    · go_wp2
      go_ret
      exact ⟨ret_bool (by simp [upB, h1, h2]), rfl⟩
    · go_wp2
      go_ret
      exact ⟨ret_bool (by simp [upB, h1, h2]), rfl⟩
  · go_wp2
    go_ret
    exact ⟨ret_bool (by simp [upB]; omega), rfl⟩
end Go.Proofs.Qxb6600183a
