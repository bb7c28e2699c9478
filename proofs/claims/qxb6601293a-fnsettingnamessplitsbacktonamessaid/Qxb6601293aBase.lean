import Derived.Test.Qxb6601293aRows
import Derived.WalkKit
import Derived.Below
import Derived.Outline
import Derived.WalkSpells
import Derived.WalkLawsBesides
import Derived.Deep.OwnRows
namespace Go.Proofs.Qxb6601293a
open Go.RowKit

theorem hide {p : Prop} (h : p) : Hid p := h
theorem turn {P : Program} {f : FuncId} {args : Array Value} {w : World} {v : Ending} (h : Calls P f args w fun e w' => e = v ∧ w' = w) : Calls P f args w fun e w' => e = v ∧ w = w' :=
  h.mono fun _ _ ⟨a, b⟩ => ⟨a, b.symm⟩

/-- what is told of a slice of strings that came in: where it has an element, it leads to a plain row -/
def IsStrs (w : World) (a : Option Addr) (len : Nat) : Prop :=
  len = 0 ∨ ∃ b off, a = some ⟨b, off, none⟩ ∧ ∃ S : Nat → ByteArray, ∀ i, i < len → w.cell? ⟨b, off + i, none⟩ = some (.string (S i))

/-- an answer, true or false -/
def Ans (e : Ending) : Prop := ∃ r, e = .returned (.bool r)
theorem ans (r : Bool) : Ans (.returned (.bool r)) := ⟨r, rfl⟩
/-- an answer; where it is 'no', the slice is short -/
def AnsBig (len : Nat) (e : Ending) : Prop := ∃ r, e = .returned (.bool r) ∧ (r = false → len ≤ 65536)
theorem ansBig_t (len : Nat) : AnsBig len (.returned (.bool true)) := ⟨true, rfl, fun h => by cases h⟩
theorem ansBig_f (len : Nat) (h : len ≤ 65536) : AnsBig len (.returned (.bool false)) := ⟨false, rfl, fun _ => h⟩

set_option maxHeartbeats 1000000 in
theorem zz15_row (typ name : ByteArray) (g fa fb fc : Value) (b off len cap : Nat) (S : Nat → ByteArray) (w : World) (ht : typ.size ≤ maxLen) (hn : name.size ≤ maxLen) (hl : len ≤ maxLen)
    (hc : ∀ i, i < len → w.cell? ⟨b, off + i, none⟩ = some (.string (S i))) :
    Calls Try.prog 15 #[.string typ, g, .string name, .slice (some ⟨b, off, none⟩) len cap, fa, fb, fc] w fun e w' => Ans e ∧ w = w' := by
  unfold maxLen at ht hn hl
  by_cases hok : typ.size + name.size + len ≤ 1048576
  · go_enter Try.func15, Try.ntmps15
    go_wp2
    go_loop [14, 15, 16] (fun _ z i => ∃ (k : Nat) (y : Int), 0 ≤ y ∧ y ≤ 1048576 ∧ k ≤ len ∧ i = .int .i64 k ∧ z = .int .i64 y) (fun _ _ i => len - (intOf i).toNat)
    case atStart => exact ⟨0, _, by omega, by omega, by omega, rfl, rfl⟩
    case round =>
      obtain ⟨k, y, hy0, hy1, hk, rfl, rfl⟩ := hrel
      by_cases hlt : k < len
      · have hck := hc k hlt
        clear hc
        go_wp2
        · go_ret; exact ⟨ans _, rfl⟩
        · go_ret; exact ⟨ans _, rfl⟩
        · go_round
          case rel => exact ⟨k + 1, y + ((S k).size : Int), by omega, by omega, by omega, by go_num, rfl⟩
          case measure => simp [intOf]; omega
      · go_wp2
        go_ret
        exact ⟨ans _, rfl⟩
  · go_enter Try.func15, Try.ntmps15
    go_wp2
    all_goals (go_ret; exact ⟨ans _, rfl⟩)

set_option maxHeartbeats 1000000 in
theorem zz15_none (typ name : ByteArray) (g fa fb fc : Value) (a : Option Addr) (cap : Nat) (w : World) (ht : typ.size ≤ maxLen) (hn : name.size ≤ maxLen) :
    Calls Try.prog 15 #[.string typ, g, .string name, .slice a 0 cap, fa, fb, fc] w fun e w' => Ans e ∧ w = w' := by
  unfold maxLen at ht hn
  by_cases hok : typ.size + name.size ≤ 1048576
  · go_enter Try.func15, Try.ntmps15
    go_wp2
    go_loop [14, 15, 16] (fun _ z i => i = .int .i64 0) (fun _ _ i => 0)
    case atStart => rfl
    case round =>
      subst hrel
      go_wp2
      go_ret
      exact ⟨ans _, rfl⟩
  · go_enter Try.func15, Try.ntmps15
    go_wp2
    all_goals (go_ret; exact ⟨ans _, rfl⟩)

theorem zz15_any (typ name : ByteArray) (g fa fb fc : Value) (a : Option Addr) (len cap : Nat) (w : World) (ht : typ.size ≤ maxLen) (hn : name.size ≤ maxLen) (hl : len ≤ maxLen) (hs : IsStrs w a len) :
    Calls Try.prog 15 #[.string typ, g, .string name, .slice a len cap, fa, fb, fc] w fun e w' => Ans e ∧ w = w' := by
  rcases hs with rfl | ⟨b, off, rfl, S, hc⟩
  · exact zz15_none typ name g fa fb fc a cap w ht hn
  · exact zz15_row typ name g fa fb fc b off len cap S w ht hn hl hc

set_option maxHeartbeats 1000000 in
theorem zz22_row (typ name : ByteArray) (g fa : Value) (b off len cap : Nat) (S : Nat → ByteArray) (w : World) (ht : typ.size ≤ maxLen) (hn : name.size ≤ maxLen) (hl : len ≤ maxLen)
    (hc : ∀ i, i < len → w.cell? ⟨b, off + i, none⟩ = some (.string (S i))) :
    Calls Try.prog 22 #[.string typ, g, .string name, .slice (some ⟨b, off, none⟩) len cap, fa] w fun e w' => Ans e ∧ w = w' := by
  unfold maxLen at ht hn hl
  by_cases hok : typ.size + name.size + len ≤ 1048576
  · go_enter Try.func22, Try.ntmps22
    go_wp2
    go_loop [10, 11, 12] (fun _ z i => ∃ (k : Nat) (y : Int), 0 ≤ y ∧ y ≤ 1048576 ∧ k ≤ len ∧ i = .int .i64 k ∧ z = .int .i64 y) (fun _ _ i => len - (intOf i).toNat)
    case atStart => exact ⟨0, _, by omega, by omega, by omega, rfl, rfl⟩
    case round =>
      obtain ⟨k, y, hy0, hy1, hk, rfl, rfl⟩ := hrel
      by_cases hlt : k < len
      · have hck := hc k hlt
        clear hc
        go_wp2
        · go_ret; exact ⟨ans _, rfl⟩
        · go_ret; exact ⟨ans _, rfl⟩
        · go_round
          case rel => exact ⟨k + 1, y + ((S k).size : Int), by omega, by omega, by omega, by go_num, rfl⟩
          case measure => simp [intOf]; omega
      · go_wp2
        go_ret
        exact ⟨ans _, rfl⟩
  · go_enter Try.func22, Try.ntmps22
    go_wp2
    all_goals (go_ret; exact ⟨ans _, rfl⟩)

set_option maxHeartbeats 1000000 in
theorem zz22_none (typ name : ByteArray) (g fa : Value) (a : Option Addr) (cap : Nat) (w : World) (ht : typ.size ≤ maxLen) (hn : name.size ≤ maxLen) :
    Calls Try.prog 22 #[.string typ, g, .string name, .slice a 0 cap, fa] w fun e w' => Ans e ∧ w = w' := by
  unfold maxLen at ht hn
  by_cases hok : typ.size + name.size ≤ 1048576
  · go_enter Try.func22, Try.ntmps22
    go_wp2
    go_loop [10, 11, 12] (fun _ z i => i = .int .i64 0) (fun _ _ i => 0)
    case atStart => rfl
    case round =>
      subst hrel
      go_wp2
      go_ret
      exact ⟨ans _, rfl⟩
  · go_enter Try.func22, Try.ntmps22
    go_wp2
    all_goals (go_ret; exact ⟨ans _, rfl⟩)

theorem zz22_any (typ name : ByteArray) (g fa : Value) (a : Option Addr) (len cap : Nat) (w : World) (ht : typ.size ≤ maxLen) (hn : name.size ≤ maxLen) (hl : len ≤ maxLen) (hs : IsStrs w a len) :
    Calls Try.prog 22 #[.string typ, g, .string name, .slice a len cap, fa] w fun e w' => Ans e ∧ w = w' := by
  rcases hs with rfl | ⟨b, off, rfl, S, hc⟩
  · exact zz22_none typ name g fa a cap w ht hn
  · exact zz22_row typ name g fa b off len cap S w ht hn hl hc

set_option maxHeartbeats 1000000 in
theorem big_row (typ name : ByteArray) (b off len cap : Nat) (S : Nat → ByteArray) (w : World) (ht : typ.size ≤ maxLen) (hn : name.size ≤ maxLen) (hl : len ≤ maxLen)
    (hc : ∀ i, i < len → w.cell? ⟨b, off + i, none⟩ = some (.string (S i))) :
    Calls Try.prog 16 #[.string typ, .string name, .slice (some ⟨b, off, none⟩) len cap] w fun e w' => AnsBig len e ∧ w = w' := by
  unfold maxLen at ht hn hl
  by_cases h1 : typ.size ≤ 1048576
  · by_cases h2 : name.size ≤ 1048576
    · by_cases h3 : len ≤ 65536
      · by_cases hok : typ.size + name.size + 16 * len ≤ 1048576
        · go_enter Try.func16, Try.ntmps16
          go_wp2
          go_loop [6, 7, 8] (fun _ z i => ∃ (k : Nat) (y : Int), 0 ≤ y ∧ y ≤ 1048576 ∧ k ≤ len ∧ i = .int .i64 k ∧ z = .int .i64 y) (fun _ _ i => len - (intOf i).toNat)
          case atStart => exact ⟨0, _, by omega, by omega, by omega, rfl, rfl⟩
          case round =>
            obtain ⟨k, y, hy0, hy1, hk, rfl, rfl⟩ := hrel
            by_cases hlt : k < len
            · have hck := hc k hlt
              clear hc
              go_wp2
              · go_ret; exact ⟨ansBig_t _, rfl⟩
              · go_ret; exact ⟨ansBig_t _, rfl⟩
              · go_round
                case rel => exact ⟨k + 1, y + ((S k).size : Int), by omega, by omega, by omega, by go_num, rfl⟩
                case measure => simp [intOf]; omega
            · go_wp2
              go_ret
              exact ⟨ansBig_f _ h3, rfl⟩
        · go_enter Try.func16, Try.ntmps16
          go_wp2
          go_ret; exact ⟨ansBig_t _, rfl⟩
      · go_enter Try.func16, Try.ntmps16
        go_wp2
        go_ret; exact ⟨ansBig_t _, rfl⟩
    · go_enter Try.func16, Try.ntmps16
      go_wp2
      go_ret; exact ⟨ansBig_t _, rfl⟩
  · go_enter Try.func16, Try.ntmps16
    go_wp2
    go_ret; exact ⟨ansBig_t _, rfl⟩

set_option maxHeartbeats 1000000 in
theorem big_none (typ name : ByteArray) (a : Option Addr) (cap : Nat) (w : World) (ht : typ.size ≤ maxLen) (hn : name.size ≤ maxLen) :
    Calls Try.prog 16 #[.string typ, .string name, .slice a 0 cap] w fun e w' => AnsBig 0 e ∧ w = w' := by
  unfold maxLen at ht hn
  by_cases h1 : typ.size ≤ 1048576
  · by_cases h2 : name.size ≤ 1048576
    · by_cases hok : typ.size + name.size ≤ 1048576
      · go_enter Try.func16, Try.ntmps16
        go_wp2
        go_loop [6, 7, 8] (fun _ z i => i = .int .i64 0) (fun _ _ i => 0)
        case atStart => rfl
        case round =>
          subst hrel
          go_wp2
          go_ret
          exact ⟨ansBig_f _ (by omega), rfl⟩
      · go_enter Try.func16, Try.ntmps16
        go_wp2
        go_ret; exact ⟨ansBig_t _, rfl⟩
    · go_enter Try.func16, Try.ntmps16
      go_wp2
      go_ret; exact ⟨ansBig_t _, rfl⟩
  · go_enter Try.func16, Try.ntmps16
    go_wp2
    go_ret; exact ⟨ansBig_t _, rfl⟩

theorem big_any (typ name : ByteArray) (a : Option Addr) (len cap : Nat) (w : World) (ht : typ.size ≤ maxLen) (hn : name.size ≤ maxLen) (hl : len ≤ maxLen) (hs : IsStrs w a len) :
    Calls Try.prog 16 #[.string typ, .string name, .slice a len cap] w fun e w' => AnsBig len e ∧ w = w' := by
  rcases hs with rfl | ⟨b, off, rfl, S, hc⟩
  · exact big_none typ name a cap w ht hn
  · exact big_row typ name b off len cap S w ht hn hl hc

end Go.Proofs.Qxb6601293a
