import Derived.Test.Qxb6601306aExp2
namespace Go.Proofs.Qxb6601306a
open Go.RowKit

/-! ### the plain scanner -/
def isRef (c d : UInt8) : Bool := ((c.toNat : Int) == 36) && digB (d.toNat : Int)
def expL (G : Nat → List UInt8) : List UInt8 → List UInt8
  | [] => []
  | [c] => [c]
  | c :: d :: r => if isRef c d then G (d.toNat - 48) ++ expL G r else c :: expL G (d :: r)
def E (G : Nat → List UInt8) (X : ByteArray) (k : Nat) : List UInt8 := expL G (X.data.toList.drop k)
def refAt (X : ByteArray) (j : Nat) : Prop := ∃ h : j + 1 < X.size, isRef (X[j]'(by omega)) (X[j + 1]'h) = true

theorem drop_one (X : ByteArray) (k : Nat) (h : k < X.size) : X.data.toList.drop k = X[k]'h :: X.data.toList.drop (k + 1) := by
  rw [List.drop_eq_getElem_cons (show k < X.data.toList.length from h)]; rfl
theorem E_end (G : Nat → List UInt8) (X : ByteArray) (k : Nat) (h : ¬ k < X.size) : E G X k = [] := by
  unfold E
  rw [List.drop_of_length_le (show X.data.toList.length ≤ k from by have : X.data.toList.length = X.size := rfl; omega)]
  rfl
theorem E_no (G : Nat → List UInt8) (X : ByteArray) (k : Nat) (h : k < X.size) (hn : ¬ refAt X k) : E G X k = X[k]'h :: E G X (k + 1) := by
  unfold E
  by_cases h1 : k + 1 < X.size
  · rw [drop_one X k h, drop_one X (k + 1) h1, expL, if_neg]
    intro hr; exact hn ⟨h1, hr⟩
  · rw [drop_one X k h, List.drop_of_length_le (i := k + 1) (show X.data.toList.length ≤ k + 1 from by have : X.data.toList.length = X.size := rfl; omega)]
    rfl
theorem E_yes (G : Nat → List UInt8) (X : ByteArray) (k : Nat) (h : k + 1 < X.size) (hr : isRef (X[k]'(by omega)) (X[k + 1]'h) = true) : E G X k = G ((X[k + 1]'h).toNat - 48) ++ E G X (k + 2) := by
  unfold E
  rw [drop_one X k (by omega), drop_one X (k + 1) h, expL, if_pos hr]
theorem E_prefix (G : Nat → List UInt8) (X : ByteArray) : ∀ i, i ≤ X.size → (∀ j, j < i → ¬ refAt X j) → E G X 0 = X.data.toList.take i ++ E G X i
  | 0, _, _ => by simp
  | i + 1, h, hn => by
    rw [E_prefix G X i (by omega) (fun j hj => hn j (by omega)), E_no G X i (by omega) (hn i (by omega)),
      List.take_succ_eq_append_getElem (show i < X.data.toList.length from by have : X.data.toList.length = X.size := rfl; omega), List.append_assoc]
    rfl
theorem E_none (G : Nat → List UInt8) (X : ByteArray) (hn : ∀ j, ¬ refAt X j) : E G X 0 = X.data.toList := by
  rw [E_prefix G X X.size (Nat.le_refl _) (fun j _ => hn j), E_end G X X.size (by omega), List.append_nil, List.take_of_length_le (show X.data.toList.length ≤ X.size from Nat.le_refl _)]
theorem E_cut (G : Nat → List UInt8) (X : ByteArray) (k : Nat) : E G (X.extract k X.size) 0 = E G X k := by
  unfold E
  congr 1
  simp
  rw [List.take_of_length_le]
  simp

/-! ### nextBackref -/
def AnsNext (X : ByteArray) (e : Ending) : Prop :=
  (e = .returned (.int .i64 (-1)) ∧ ∀ j, ¬ refAt X j) ∨ ∃ i : Nat, e = .returned (.int .i64 i) ∧ refAt X i ∧ ∀ j, j < i → ¬ refAt X j
set_option maxHeartbeats 1000000 in
theorem next_any (X : ByteArray) (w : World) (hs : X.size ≤ 1048576) :
    Calls Try.prog 36 #[.string X] w fun e w' => AnsNext X e ∧ w = w' := by
  go_enter Try.func36, Try.ntmps36
  go_wp2
  go_loop [2, 3] (fun _ i => ∃ k : Nat, k ≤ X.size ∧ i = .int .i64 k ∧ Hid (∀ j, j < k → ¬ refAt X j)) (fun _ i => X.size - (intOf i).toNat)
  case atStart => exact ⟨0, by omega, rfl, fun j h => by omega⟩
  case round =>
    obtain ⟨k, hk, rfl, HJ⟩ := hrel
    by_cases hlt : k + 1 < X.size
    · have hlt' : k < X.size := by omega
      have hno : ((((X[k]'hlt').toNat : Int) == 36) && digB ((X[k + 1]'hlt).toNat : Int)) = false → ∀ j, j < k + 1 → ¬ refAt X j := by
        intro h j hj
        by_cases e : j = k
        · subst e; rintro ⟨h1, h2⟩
          unfold isRef at h2; rw [h] at h2; cases h2
        · exact HJ.out j (by omega)
      have HNO := hide hno
      clear hno
      cases hc : (((X[k]'hlt').toNat : Int) == 36)
      · have HN : Hid (∀ j, j < k + 1 → ¬ refAt X j) := HNO.out (by rw [hc]; rfl)
        go_wp2
        go_round
        case rel => exact ⟨k + 1, by omega, by go_num, HN⟩
        case measure => simp [intOf]; omega
      · by_cases h1 : 48 ≤ ((X[k + 1]'hlt).toNat : Int)
        · by_cases h2 : ((X[k + 1]'hlt).toNat : Int) ≤ 57
          · have HY : Hid (refAt X k) := ⟨hlt, by unfold isRef; rw [hc, digB_t ⟨h1, h2⟩]; rfl⟩
            go_wp2
            go_ret
            exact ⟨.inr ⟨k, rfl, HY, HJ.out⟩, rfl⟩
          · have HN : Hid (∀ j, j < k + 1 → ¬ refAt X j) := HNO.out (by rw [hc, digB_f (by omega)]; rfl)
            go_wp2
            go_round
            case rel => exact ⟨k + 1, by omega, by go_num, HN⟩
            case measure => simp [intOf]; omega
        · have HN : Hid (∀ j, j < k + 1 → ¬ refAt X j) := HNO.out (by rw [hc, digB_f (by omega)]; rfl)
          go_wp2
          go_round
          case rel => exact ⟨k + 1, by omega, by go_num, HN⟩
          case measure => simp [intOf]; omega
    · go_wp2
      go_ret
      refine ⟨.inl ⟨rfl, fun j => ?_⟩, rfl⟩
      by_cases h : j < k
      · exact HJ.out j h
      · rintro ⟨h1, _⟩; omega

/-! ### groupText -/
def grpOk (Z : Nat → Int) (len g : Nat) : Bool := decide (2 * g + 1 < len ∧ 0 ≤ Z (2 * g))
def grp (s : ByteArray) (Z : Nat → Int) (len g : Nat) : ByteArray := if grpOk Z len g then s.extract (Z (2 * g)).toNat (Z (2 * g + 1)).toNat else ⟨#[]⟩
theorem grp_size (s : ByteArray) (Z : Nat → Int) (len g : Nat) : (grp s Z len g).size ≤ s.size := by
  unfold grp
  split
  · simp; omega
  · exact Nat.zero_le _

set_option maxHeartbeats 1000000 in
theorem group_row (s : ByteArray) (b off len cap g : Nat) (n : Int) (hn : n = (g : Int)) (Z : Nat → Int) (w : World) (hg : g < 10) (_hl : len ≤ 1048576) (hv : Hid (Valid s.size Z len))
    (hc : ∀ i, i < len → w.cell? ⟨b, off + i, none⟩ = some (.int .i64 (Z i))) :
    Calls Try.prog 32 #[.string s, .slice (some ⟨b, off, none⟩) len cap, .int .i64 n] w fun e w' => e = .returned (.tuple #[.string (grp s Z len g), .bool (grpOk Z len g)]) ∧ Drew w w' := by
  subst hn
  by_cases hm : 2 * g + 1 < len
  · have e0 : w.cell? ⟨b, off + 2 * g, none⟩ = some (.int .i64 (Z (2 * g))) := hc (2 * g) (by omega)
    have e1 : w.cell? ⟨b, off + (2 * g + 1), none⟩ = some (.int .i64 (Z (2 * g + 1))) := hc (2 * g + 1) hm
    have hV := hv.out g hg hm
    by_cases h0 : 0 ≤ Z (2 * g)
    · obtain ⟨v1, v2⟩ := hV h0
      have hgr : grp s Z len g = s.extract (Z (2 * g)).toNat (Z (2 * g + 1)).toNat := by unfold grp grpOk; rw [if_pos (by simp [hm, h0])]
      have hok : grpOk Z len g = true := by unfold grpOk; simp [hm, h0]
      rw [hgr, hok]
      obtain ⟨x, hx⟩ : ∃ x, x = Z (2 * g) := ⟨_, rfl⟩
      obtain ⟨y, hy⟩ : ∃ y, y = Z (2 * g + 1) := ⟨_, rfl⟩
      rw [← hx] at e0 h0 v1
      rw [← hy] at e1 v1 v2
      rw [← hx, ← hy]
      clear hgr hok hx hy hc hV
      have hmI : 2 * (g : Int) + 1 < (len : Int) := by omega
      go_enter Try.func32, Try.ntmps32
      go_wp2
      go_quiet (fail)
      go_wp2
      go_ret2
      exact ⟨rfl, nq, rfl⟩
    · have hgr : grp s Z len g = ⟨#[]⟩ := by unfold grp grpOk; rw [if_neg (by simp [h0])]
      have hok : grpOk Z len g = false := by unfold grpOk; simp [h0]
      rw [hgr, hok]
      obtain ⟨x, hx⟩ : ∃ x, x = Z (2 * g) := ⟨_, rfl⟩
      rw [← hx] at e0 h0
      clear hgr hok hx hc hV e1
      go_enter Try.func32, Try.ntmps32
      go_wp2
      go_ret2
      exact ⟨rfl, Drew.refl _⟩
  · have hgr : grp s Z len g = ⟨#[]⟩ := by unfold grp grpOk; rw [if_neg (by simp [hm])]
    have hok : grpOk Z len g = false := by unfold grpOk; simp [hm]
    rw [hgr, hok]
    clear hgr hok hc
    go_enter Try.func32, Try.ntmps32
    go_wp2
    go_ret2
    exact ⟨rfl, Drew.refl _⟩

set_option maxHeartbeats 1000000 in
theorem group_none (s : ByteArray) (a : Option Addr) (cap g : Nat) (n : Int) (hn : n = (g : Int)) (Z : Nat → Int) (w : World) (hg : g < 10) :
    Calls Try.prog 32 #[.string s, .slice a 0 cap, .int .i64 n] w fun e w' => e = .returned (.tuple #[.string (grp s Z 0 g), .bool (grpOk Z 0 g)]) ∧ Drew w w' := by
  subst hn
  have hgr : grp s Z 0 g = ⟨#[]⟩ := by unfold grp grpOk; rw [if_neg (by simp)]
  have hok : grpOk Z 0 g = false := by unfold grpOk; simp
  rw [hgr, hok]
  clear hgr hok
  go_enter Try.func32, Try.ntmps32
  go_wp2
  go_ret2
  exact ⟨rfl, Drew.refl _⟩
theorem group_any (s : ByteArray) (a : Option Addr) (len cap g : Nat) (n : Int) (hn : n = (g : Int)) (Z : Nat → Int) (w : World) (hg : g < 10) (hl : len ≤ 1048576) (hv : Valid s.size Z len) (h : IsInts w a len Z) :
    Calls Try.prog 32 #[.string s, .slice a len cap, .int .i64 n] w fun e w' => e = .returned (.tuple #[.string (grp s Z len g), .bool (grpOk Z len g)]) ∧ Drew w w' := by
  rcases h with rfl | ⟨b, off, rfl, hc⟩
  · exact group_none s a cap g n hn Z w hg
  · exact group_row s b off len cap g n hn Z w hg hl hv hc
end Go.Proofs.Qxb6601306a
