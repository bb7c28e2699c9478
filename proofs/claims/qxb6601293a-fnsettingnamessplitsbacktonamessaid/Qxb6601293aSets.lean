import Derived.Test.Qxb6601293aBase
import Derived.Lib.SliceRun
namespace Go.Proofs.Qxb6601293a
open Go.RowKit

/-- the cells of a row of settings: name, least, text, name, .. -/
def setC (S : Nat → ByteArray) (L : Nat → Int) (T : Nat → Bool) (j : Nat) : Value :=
  if j % 3 = 0 then .string (S (j / 3)) else if j % 3 = 1 then .int .i64 (L (j / 3)) else .bool (T (j / 3))
theorem setC0 (S : Nat → ByteArray) (L : Nat → Int) (T : Nat → Bool) (i : Nat) : setC S L T (i * 3) = .string (S i) := by
  unfold setC; rw [if_pos (by omega)]; congr 2; omega
theorem setC1 (S : Nat → ByteArray) (L : Nat → Int) (T : Nat → Bool) (i : Nat) : setC S L T (i * 3 + 1) = .int .i64 (L i) := by
  unfold setC; rw [if_neg (by omega), if_pos (by omega)]; congr 2; omega
theorem setC2 (S : Nat → ByteArray) (L : Nat → Int) (T : Nat → Bool) (i : Nat) : setC S L T (i * 3 + 2) = .bool (T i) := by
  unfold setC; rw [if_neg (by omega), if_neg (by omega)]; congr 2; omega

set_option maxHeartbeats 1000000 in
theorem zz8_row (b off len cap : Nat) (S : Nat → ByteArray) (w : World) (hl : len ≤ maxLen)
    (hc : ∀ i, i < len → w.cell? ⟨b, off + i * 3, none⟩ = some (.string (S i))) :
    Calls Try.prog 8 #[.slice (some ⟨b, off, none⟩) len cap] w fun e w' => Ans e ∧ w = w' := by
  unfold maxLen at hl
  by_cases hok : len ≤ 1048576
  · go_enter Try.func8, Try.ntmps8
    go_wp2
    go_loop [2, 3, 4] (fun _ z i => ∃ (k : Nat) (y : Int), 0 ≤ y ∧ y ≤ 1048576 ∧ k ≤ len ∧ i = .int .i64 k ∧ z = .int .i64 y) (fun _ _ i => len - (intOf i).toNat)
    case atStart => exact ⟨0, _, by omega, by omega, by omega, rfl, rfl⟩
    case round =>
      obtain ⟨k, y, hy0, hy1, hk, rfl, rfl⟩ := hrel
      by_cases hlt : k < len
      · have hck := hc k hlt
        clear hc
        go_wp2
        · go_ret; exact ⟨ans _, rfl⟩
        · go_ret; exact ⟨ans _, rfl⟩
        · go_round
          case rel => exact ⟨k + 1, y + ((S k).size : Int), by omega, by omega, by omega, by go_num, rfl⟩
          case measure => simp [intOf]; omega
      · go_wp2
        go_ret
        exact ⟨ans _, rfl⟩
  · go_enter Try.func8, Try.ntmps8
    go_wp2
    all_goals (go_ret; exact ⟨ans _, rfl⟩)

theorem zz8_none (a : Option Addr) (cap : Nat) (w : World) :
    Calls Try.prog 8 #[.slice a 0 cap] w fun e w' => Ans e ∧ w = w' := by
  go_enter Try.func8, Try.ntmps8
  go_wp2
  go_loop [2, 3, 4] (fun _ z i => i = .int .i64 0) (fun _ _ i => 0)
  case atStart => rfl
  case round =>
    subst hrel
    go_wp2
    go_ret
    exact ⟨ans _, rfl⟩

/-- the bytes of the first k names -/
def tot (S : Nat → ByteArray) : Nat → Nat
  | 0 => 0
  | k + 1 => tot S k + (S k).size
/-- an answer; where it is 'no', the names are few and short -/
def AnsTot (S : Nat → ByteArray) (len : Nat) (e : Ending) : Prop := ∃ r, e = .returned (.bool r) ∧ (r = false → len ≤ 32768 ∧ 32 * len + tot S len ≤ 1048576)
theorem ansTot_t (S : Nat → ByteArray) (len : Nat) : AnsTot S len (.returned (.bool true)) := ⟨true, rfl, fun h => by cases h⟩
theorem ansTot_f (S : Nat → ByteArray) (len : Nat) (h : len ≤ 32768) (h' : 32 * len + tot S len ≤ 1048576) : AnsTot S len (.returned (.bool false)) := ⟨false, rfl, fun _ => ⟨h, h'⟩⟩

set_option maxHeartbeats 1000000 in
theorem big9_row (b off len cap : Nat) (S : Nat → ByteArray) (w : World) (hl : len ≤ maxLen)
    (hc : ∀ i, i < len → w.cell? ⟨b, off + i * 3, none⟩ = some (.string (S i))) :
    Calls Try.prog 9 #[.slice (some ⟨b, off, none⟩) len cap] w fun e w' => AnsTot S len e ∧ w = w' := by
  unfold maxLen at hl
  by_cases hok : len ≤ 32768
  · go_enter Try.func9, Try.ntmps9
    go_wp2
    go_loop [2, 3, 4] (fun _ z i => ∃ (k : Nat), k ≤ len ∧ 32 * len + tot S k ≤ 1048576 ∧ i = .int .i64 k ∧ z = .int .i64 ((32 * len + tot S k : Nat) : Int)) (fun _ _ i => len - (intOf i).toNat)
    case atStart => exact ⟨0, by omega, by simp only [tot]; omega, rfl, by simp [tot]⟩
    case round =>
      obtain ⟨k, hk, hy1, rfl, rfl⟩ := hrel
      by_cases hlt : k < len
      · have hck := hc k hlt
        have ht : tot S (k + 1) = tot S k + (S k).size := rfl
        have HT := hide ht
        clear hc ht
        obtain ⟨y, hy⟩ : ∃ y, y = 32 * len + tot S k := ⟨_, rfl⟩
        have HY := hide hy
        rw [← hy] at hy1 ⊢
        clear hy
        go_wp2
        · go_ret; exact ⟨ansTot_t _ _, rfl⟩
        · go_ret; exact ⟨ansTot_t _ _, rfl⟩
        · have h1 := HT.out
          have h2 := HY.out
          go_round
          case rel => exact ⟨k + 1, by omega, by omega, by go_num, by rw [h1]; go_num⟩
          case measure => simp [intOf]; omega
      · obtain rfl : k = len := by omega
        go_wp2
        go_ret
        exact ⟨ansTot_f _ _ hok hy1, rfl⟩
  · go_enter Try.func9, Try.ntmps9
    go_wp2
    go_ret; exact ⟨ansTot_t _ _, rfl⟩

theorem big9_none (a : Option Addr) (cap : Nat) (w : World) :
    Calls Try.prog 9 #[.slice a 0 cap] w fun e w' => Ans e ∧ w = w' := by
  go_enter Try.func9, Try.ntmps9
  go_wp2
  go_loop [2, 3, 4] (fun _ z i => i = .int .i64 0) (fun _ _ i => 0)
  case atStart => rfl
  case round =>
    subst hrel
    go_wp2
    go_ret
    exact ⟨ans _, rfl⟩

/-- no byte of s is a comma -/
def NoComma (s : ByteArray) : Prop := ∀ (k : Nat) (h : k < s.size), (s[k]'h).toNat ≠ 44
def AnsComma (s : ByteArray) (e : Ending) : Prop := ∃ r, e = .returned (.bool r) ∧ (r = false → NoComma s)

set_option maxHeartbeats 400000 in
theorem comma_any (s : ByteArray) (w : World) (hs : s.size ≤ 1048576) :
    Calls Try.prog 10 #[.string s] w fun e w' => AnsComma s e ∧ w = w' := by
  go_enter Try.func10, Try.ntmps10
  go_wp2
  go_loop [2, 3] (fun _ i => ∃ k : Nat, k ≤ s.size ∧ i = .int .i64 k ∧ Hid (∀ (j : Nat) (h : j < s.size), j < k → (s[j]'h).toNat ≠ 44)) (fun _ i => s.size - (intOf i).toNat)
  case atStart => exact ⟨0, by omega, rfl, fun j _ h => by omega⟩
  case round =>
    obtain ⟨k, hk, rfl, HJ⟩ := hrel
    by_cases hlt : k < s.size
    · cases hne : (((s[k]'hlt).toNat : Int) == 44)
      · go_wp2
        go_round
        case rel =>
          refine ⟨k + 1, by omega, by go_num, ?_⟩
          intro j h hj
          by_cases e : j = k
          · subst e; intro e2; rw [e2] at hne; simp at hne
          · exact HJ.out j h (by omega)
        case measure => simp [intOf]; omega
      · go_wp2
        go_ret
        exact ⟨⟨true, rfl, fun h => by cases h⟩, rfl⟩
    · go_wp2
      go_ret
      exact ⟨⟨false, rfl, fun _ k h => HJ.out k h (by omega)⟩, rfl⟩
end Go.Proofs.Qxb6601293a
