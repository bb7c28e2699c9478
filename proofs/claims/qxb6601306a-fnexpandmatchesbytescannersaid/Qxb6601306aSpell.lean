import Derived.Test.Qxb6601306aRows
import Derived.WalkKit
import Derived.Below
import Derived.Outline
import Derived.WalkSpells
import Derived.WalkLawsBesides
import Derived.Deep.QuietTactic
import Derived.BigQuiet
import Derived.Lib.Strings
import Derived.Deep.RegionWith
namespace Go.Proofs.Qxb6601306a
open Go.RowKit

theorem hide {p : Prop} (h : p) : Hid p := h
theorem turn {P : Program} {f : FuncId} {args : Array Value} {w : World} {v : Ending} (h : Calls P f args w fun e w' => e = v ∧ w' = w) : Calls P f args w fun e w' => e = v ∧ w = w' :=
  h.mono fun _ _ ⟨a, b⟩ => ⟨a, b.symm⟩
theorem ret_int {k : IntKind} {a b : Int} (h : a = b) : Ending.returned (.int k a) = .returned (.int k b) := by rw [h]
/-- the world has only drawn -/
def Drew (w w' : World) : Prop := ∃ n, w' = w.drewN n
theorem Drew.refl (w : World) : Drew w w := ⟨0, rfl⟩
theorem Drew.on {w w' : World} (h : Drew w w') (n : Nat) : Drew w (w'.drewN n) := by
  obtain ⟨m, rfl⟩ := h; exact ⟨m + n, by rw [World.drewN_drewN]⟩
theorem Drew.below {w w' : World} (h : Drew w w') (B : Nat) : Below B w w' := by
  obtain ⟨n, rfl⟩ := h; exact ⟨rfl, rfl, rfl, Nat.le_refl _, fun _ _ => rfl⟩

def lowA (c : Int) : Int := if 65 ≤ c ∧ c ≤ 90 then c + 32 else c

set_option maxHeartbeats 400000 in
theorem lower_any (c : Int) (w : World) :
    Calls Try.prog 29 #[.int .u8 c] w fun e w' => e = .returned (.int .u8 (lowA c)) ∧ w' = w := by
  by_cases h1 : 65 ≤ c
  · by_cases h2 : c ≤ 90
    · go_enter Try.func29, Try.ntmps29
      go_wp2
      go_ret
      exact ⟨ret_int (by unfold lowA; rw [if_pos ⟨h1, h2⟩]), rfl⟩
    · go_enter Try.func29, Try.ntmps29
      go_wp2
      go_ret
      exact ⟨ret_int (by unfold lowA; rw [if_neg (by omega)]), rfl⟩
  · go_enter Try.func29, Try.ntmps29
    go_wp2
    go_ret
    exact ⟨ret_int (by unfold lowA; rw [if_neg (by omega)]), rfl⟩

set_option maxHeartbeats 400000 in
theorem fold_true (a b : ByteArray) (w : World) (hs : a.size ≤ maxLen) (h1 : b.size ≤ a.size) (h2 : a.size ≤ b.size)
    (hg : Hid (∀ (k : Nat) (h : k < a.size) (h' : k < b.size), lowA ((a[k]'h).toNat : Int) = lowA ((b[k]'h').toNat : Int))) :
    Calls Try.prog 11 #[.string a, .string b] w fun e w' => e = .returned (.bool true) ∧ Drew w w' := by
  unfold maxLen at hs
  go_enter Try.func11, Try.ntmps11
  go_wp2
  go_loopw [4, 5] (fun r i wr => ∃ k : Nat, k ≤ a.size ∧ i = .int .i64 k ∧ Drew w wr) (fun _ i _ => a.size - (intOf i).toNat)
  case atStart => exact ⟨0, by omega, rfl, Drew.refl w⟩
  case round =>
    obtain ⟨k, hk, rfl, hd⟩ := hrel
    by_cases hlt : k < a.size
    · have hlt' : k < b.size := by omega
      go_wp2
      go_quiet ((go_at_call 29; exact Calls.quiet_of_same (lower_any _ _)))
      have hne : (lowA ((a[k]'hlt).toNat : Int) != lowA ((b[k]'hlt').toNat : Int)) = false := by
        rw [hg.out k hlt hlt']; simp
      go_wp2
      go_roundw
      case rel => exact ⟨k + 1, by omega, by go_num, hd.on nq⟩
      case measure => simp [intOf]; omega
    · go_wp2
      go_ret
      exact ⟨rfl, hd⟩

def bEtag : ByteArray := ⟨#[69, 116, 97, 103]⟩
def bETag : ByteArray := ⟨#[69, 84, 97, 103]⟩
def bUri : ByteArray := ⟨#[85, 114, 105]⟩
def bURI : ByteArray := ⟨#[85, 82, 73]⟩
def bWww : ByteArray := ⟨#[87, 119, 119, 45, 65, 117, 116, 104, 101, 110, 116, 105, 99, 97, 116, 101]⟩
def bWWW : ByteArray := ⟨#[87, 87, 87, 45, 65, 117, 116, 104, 101, 110, 116, 105, 99, 97, 116, 101]⟩
/-- what spelling answers -/
def spell (key : ByteArray) : ByteArray :=
  if key.toList == [69, 116, 97, 103] then bETag else if key.toList == [85, 114, 105] then bURI
  else if key.toList == [87, 119, 119, 45, 65, 117, 116, 104, 101, 110, 116, 105, 99, 97, 116, 101] then bWWW else key

set_option maxHeartbeats 400000 in
theorem spelling_any (key : ByteArray) (w : World) :
    Calls Try.prog 28 #[.string key] w fun e w' => e = .returned (.string (spell key)) ∧ w = w' := by
  unfold spell
  cases h1 : (key.toList == [69, 116, 97, 103])
  · cases h2 : (key.toList == [85, 114, 105])
    · cases h3 : (key.toList == [87, 119, 119, 45, 65, 117, 116, 104, 101, 110, 116, 105, 99, 97, 116, 101])
      · go_enter Try.func28, Try.ntmps28
        go_wp2
        go_ret
        exact ⟨rfl, rfl⟩
      · go_enter Try.func28, Try.ntmps28
        go_wp2
        go_ret
        exact ⟨rfl, rfl⟩
    · go_enter Try.func28, Try.ntmps28
      go_wp2
      go_ret
      exact ⟨rfl, rfl⟩
  · go_enter Try.func28, Try.ntmps28
    go_wp2
    go_ret
    exact ⟨rfl, rfl⟩

theorem of_list {key : ByteArray} {l : List UInt8} (h : (key.toList == l) = true) : key = ⟨l.toArray⟩ := by
  rw [beq_iff_eq, Lib.toList_data] at h
  apply ByteArray.ext
  rw [← h]
theorem spell_cases (key : ByteArray) : (key = bEtag ∧ spell key = bETag) ∨ (key = bUri ∧ spell key = bURI) ∨ (key = bWww ∧ spell key = bWWW) ∨ spell key = key := by
  unfold spell
  by_cases h1 : (key.toList == [69, 116, 97, 103]) = true
  · rw [if_pos h1]; exact .inl ⟨of_list h1, rfl⟩
  · rw [if_neg h1]
    by_cases h2 : (key.toList == [85, 114, 105]) = true
    · rw [if_pos h2]; exact .inr (.inl ⟨of_list h2, rfl⟩)
    · rw [if_neg h2]
      by_cases h3 : (key.toList == [87, 119, 119, 45, 65, 117, 116, 104, 101, 110, 116, 105, 99, 97, 116, 101]) = true
      · rw [if_pos h3]; exact .inr (.inr (.inl ⟨of_list h3, rfl⟩))
      · rw [if_neg h3]; exact .inr (.inr (.inr rfl))
theorem spell_fix : spell bETag = bETag ∧ spell bURI = bURI ∧ spell bWWW = bWWW := by
  simp only [spell, Lib.toList_data]
  decide
theorem spell_idem (key : ByteArray) : spell (spell key) = spell key := by
  rcases spell_cases key with ⟨_, h⟩ | ⟨_, h⟩ | ⟨_, h⟩ | h
  · rw [h]; exact spell_fix.1
  · rw [h]; exact spell_fix.2.1
  · rw [h]; exact spell_fix.2.2
  · rw [h, h]
theorem same_letters (key : ByteArray) : (spell key).size = key.size ∧ ∀ (k : Nat) (h : k < (spell key).size) (h' : k < key.size), lowA (((spell key)[k]'h).toNat : Int) = lowA ((key[k]'h').toNat : Int) := by
  rcases spell_cases key with ⟨e, h⟩ | ⟨e, h⟩ | ⟨e, h⟩ | h
  · rw [h]; subst e
    have key : ∀ k : Fin 4, lowA ((bETag[k.val]'k.isLt).toNat : Int) = lowA ((bEtag[k.val]'k.isLt).toNat : Int) := by decide +kernel
    exact ⟨rfl, fun k h h' => key ⟨k, h⟩⟩
  · rw [h]; subst e
    have key : ∀ k : Fin 3, lowA ((bURI[k.val]'k.isLt).toNat : Int) = lowA ((bUri[k.val]'k.isLt).toNat : Int) := by decide +kernel
    exact ⟨rfl, fun k h h' => key ⟨k, h⟩⟩
  · rw [h]; subst e
    have key : ∀ k : Fin 16, lowA ((bWWW[k.val]'k.isLt).toNat : Int) = lowA ((bWww[k.val]'k.isLt).toNat : Int) := by decide +kernel
    exact ⟨rfl, fun k h h' => key ⟨k, h⟩⟩
  · rw [h]; exact ⟨rfl, fun k _ _ => rfl⟩

theorem early3 (s : ByteArray) (w : World) (hs : s.size ≤ maxLen) (h : ¬ s.size ≤ 1048576) :
    Calls Try.prog 3 #[.string s] w fun e w' => e = .returned (.bool true) ∧ Below w.heap.size w w' := by
  unfold maxLen at hs
  go_enter Try.func3, Try.ntmps3
  go_wp2
  go_ret
  exact ⟨rfl, Below.refl _ _⟩
set_option maxHeartbeats 400000 in
theorem main3 (s : ByteArray) (w : World) (h : s.size ≤ 1048576) :
    Calls Try.prog 3 #[.string s] w fun e w' => e = .returned (.bool true) ∧ Below w.heap.size w w' := by
  have c1 := spelling_any s w
  have c2 := spelling_any (spell s) w
  rw [spell_idem] at c2
  obtain ⟨hz, hg⟩ := same_letters s
  have c3 := fold_true (spell s) s w (by unfold maxLen; omega) (by omega) (by omega) hg
  obtain ⟨t, ht⟩ : ∃ t, t = spell s := ⟨_, rfl⟩
  rw [← ht] at c1 c2 c3
  clear hz hg ht
  go_enter Try.func3, Try.ntmps3
  go_wp2_with (first | (go_at_call 9; go_in) | (go_at_call 10; go_in) | (go_at_call_of 28 s; refine c1.mono ?_; rintro e _ ⟨rfl, rfl⟩) | (go_at_call_of 28 t; refine c2.mono ?_; rintro e _ ⟨rfl, rfl⟩) | (go_at_call 11; refine c3.mono ?_))
  rintro e w2 ⟨rfl, d⟩
  go_wp2
  go_ret
  exact ⟨rfl, d.below _⟩
theorem walk3 (s : ByteArray) (w : World) (hs : s.size ≤ maxLen) :
    Calls Try.prog 3 #[.string s] w fun e w' => e = .returned (.bool true) ∧ Below w.heap.size w w' := by
  by_cases h : s.size ≤ 1048576
  · exact main3 s w h
  · exact early3 s w hs h
end Go.Proofs.Qxb6601306a
