import Ieee.Arith
namespace Go.Proofs.Qxb6601293a
open Ieee

theorem signed_shift (s : Bool) (m u d : Nat) : signed s m (u + d) = signed s m u * ((2 ^ d : Nat) : Int) := by
  unfold signed
  have h : m <<< (u + d) = (m <<< u) * 2 ^ d := by rw [Nat.shiftLeft_eq, Nat.shiftLeft_eq, Nat.pow_add, Nat.mul_assoc]
  rw [h, Int.natCast_mul]
  cases s <;> simp [Int.neg_mul]

theorem compare_mul (x y p : Int) (hp : 0 < p) : compare (x * p) (y * p) = compare x y := by
  cases h : compare x y
  · rw [Int.compare_eq_lt] at h ⊢; exact Int.mul_lt_mul_of_pos_right h hp
  · rw [Int.compare_eq_eq] at h ⊢; rw [h]
  · rw [Int.compare_eq_gt] at h ⊢; exact Int.mul_lt_mul_of_pos_right h hp

theorem order_base (s t : Bool) (m n : Nat) (i j base : Int) (h1 : base ≤ i) (h2 : base ≤ j) :
    compare (signed s m (i - min i j).toNat) (signed t n (j - min i j).toNat) = compare (signed s m (i - base).toNat) (signed t n (j - base).toNat) := by
  have e1 : (i - base).toNat = (i - min i j).toNat + (min i j - base).toNat := by omega
  have e2 : (j - base).toNat = (j - min i j).toNat + (min i j - base).toNat := by omega
  rw [e1, e2, signed_shift, signed_shift, compare_mul]
  have : 0 < 2 ^ (min i j - base).toNat := Nat.pow_pos (by omega)
  omega

theorem order_swap (a b : Datum) : b.order a = (a.order b).map Ordering.swap := by
  cases a <;> cases b <;> simp [Datum.order]
  · rename_i s m i t n j
    rw [Int.compare_swap, Int.min_comm]
  · rename_i s m i t
    cases t <;> rfl
  · rename_i s t n j
    cases s <;> rfl
  · rename_i s t
    cases s <;> cases t <;> rfl

theorem order_lt_trans (a b c : Datum) (h1 : a.order b = some .lt) (h2 : b.order c = some .lt) : a.order c = some .lt := by
  cases a with
  | nan s f => simp [Datum.order] at h1
  | infinity s =>
    cases b with
    | nan t f => simp [Datum.order] at h1
    | infinity t =>
      cases c with
      | nan u f => simp [Datum.order] at h2
      | infinity u => cases s <;> cases t <;> cases u <;> simp_all [Datum.order] <;> (first | exact absurd h1 (by decide) | exact absurd h2 (by decide) | (revert h1 h2; decide) | skip)
      | number u k l => cases s <;> cases t <;> cases u <;> simp_all [Datum.order] <;> (first | exact absurd h1 (by decide) | exact absurd h2 (by decide) | (revert h1 h2; decide) | skip)
    | number t n j =>
      cases s
      · simp [Datum.order] at h1
      · cases c with
        | nan u f => simp [Datum.order] at h2
        | infinity u =>
          cases u
          · simp [Datum.order]; decide
          · simp [Datum.order] at h2
        | number u k l => simp [Datum.order]
  | number s m i =>
    cases b with
    | nan t f => simp [Datum.order] at h1
    | infinity t =>
      cases t
      · cases c with
        | nan u f => simp [Datum.order] at h2
        | infinity u =>
          cases u
          · simp [Datum.order] at h2
          · simp [Datum.order] at h2; exact absurd h2 (by decide)
        | number u k l => simp [Datum.order] at h2
      · simp [Datum.order] at h1
    | number t n j =>
      cases c with
      | nan u f => simp [Datum.order] at h2
      | infinity u =>
        cases u
        · simp [Datum.order]
        · simp [Datum.order] at h2
      | number u k l =>
        simp only [Datum.order, Option.some.injEq] at h1 h2 ⊢
        rw [order_base s t m n i j (min i (min j l)) (by omega) (by omega), Int.compare_eq_lt] at h1
        rw [order_base t u n k j l (min i (min j l)) (by omega) (by omega), Int.compare_eq_lt] at h2
        rw [order_base s u m k i l (min i (min j l)) (by omega) (by omega), Int.compare_eq_lt]
        exact Int.lt_trans h1 h2

theorem order_self (a : Datum) : a.order a = some .eq ∨ a.order a = none := by
  cases a with
  | nan s f => right; rfl
  | infinity s => left; simp [Datum.order]
  | number s m i => left; simp [Datum.order]

theorem order_some (a b : Datum) (ha : a.order a = some .eq) (hb : b.order b = some .eq) : ∃ o, a.order b = some o := by
  cases a with
  | nan s f => simp [Datum.order] at ha
  | infinity s => cases b with
    | nan t f => simp [Datum.order] at hb
    | infinity t => exact ⟨_, rfl⟩
    | number t n j => exact ⟨_, rfl⟩
  | number s m i => cases b with
    | nan t f => simp [Datum.order] at hb
    | infinity t => exact ⟨_, rfl⟩
    | number t n j => exact ⟨_, rfl⟩
end Go.Proofs.Qxb6601293a
