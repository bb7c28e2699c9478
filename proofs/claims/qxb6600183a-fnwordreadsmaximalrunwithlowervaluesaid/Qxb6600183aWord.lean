import Derived.Test.Qxb6600183aLawA
import Derived.Test.Qxb6600183aLow2
namespace Go.Proofs.Qxb6600183a
open Go.RowKit

def wsB (c : Int) : Bool := decide (97 ≤ c ∧ c ≤ 122 ∨ 65 ≤ c ∧ c ≤ 90 ∨ c = 95)
def dgB (c : Int) : Bool := decide (48 ≤ c ∧ c ≤ 57)
def wdB (c : Int) : Bool := wsB c || dgB c
theorem wsB_t {c : Int} (h : 97 ≤ c ∧ c ≤ 122 ∨ 65 ≤ c ∧ c ≤ 90 ∨ c = 95) : wsB c = true := by simp [wsB, h]
theorem wsB_f {c : Int} (h : ¬ (97 ≤ c ∧ c ≤ 122 ∨ 65 ≤ c ∧ c ≤ 90 ∨ c = 95)) : wsB c = false := by simp only [wsB, h, decide_false]
theorem dgB_t {c : Int} (h : 48 ≤ c ∧ c ≤ 57) : dgB c = true := by simp [dgB, h]
theorem dgB_f {c : Int} (h : ¬ (48 ≤ c ∧ c ≤ 57)) : dgB c = false := by simp only [dgB, h, decide_false]

set_option maxHeartbeats 400000 in
theorem isDigit_any (c : Int) (w : World) :
    Calls Try.prog 36 #[.int .u8 c] w fun e w' => e = .returned (.bool (dgB c)) ∧ w = w' := by
  go_enter Try.func36, Try.ntmps36
  by_cases h1 : 48 ≤ c
  · by_cases h2 : c ≤ 57
    · go_wp2
      go_ret
      exact ⟨ret_bool (dgB_t ⟨h1, h2⟩).symm, rfl⟩
    · go_wp2
      go_ret
      exact ⟨ret_bool (dgB_f (by omega)).symm, rfl⟩
  · go_wp2
    go_ret
    exact ⟨ret_bool (dgB_f (by omega)).symm, rfl⟩

set_option maxHeartbeats 400000 in
theorem isWordStart_any (c : Int) (w : World) :
    Calls Try.prog 35 #[.int .u8 c] w fun e w' => e = .returned (.bool (wsB c)) ∧ w = w' := by
  go_enter Try.func35, Try.ntmps35
  by_cases h1 : 97 ≤ c
  · by_cases h2 : c ≤ 122
    · go_wp2
      go_ret
      exact ⟨ret_bool (wsB_t (by omega)).symm, rfl⟩
    · have h3 : ¬ c ≤ 90 := by omega
      have h4 : 65 ≤ c := by omega
      have h5 : (c == 95) = false := by simp; omega
      go_wp2
      go_ret
      exact ⟨ret_bool (wsB_f (by omega)).symm, rfl⟩
  · by_cases h3 : 65 ≤ c
    · by_cases h4 : c ≤ 90
      · go_wp2
        go_ret
        exact ⟨ret_bool (wsB_t (by omega)).symm, rfl⟩
      · cases h5 : (c == 95)
        · go_wp2
          go_ret
          exact ⟨ret_bool (wsB_f (by simp at h5; omega)).symm, rfl⟩
        · go_wp2
          go_ret
          exact ⟨ret_bool (wsB_t (by simp at h5; omega)).symm, rfl⟩
    · have h5 : (c == 95) = false := by simp; omega
      go_wp2
      go_ret
      exact ⟨ret_bool (wsB_f (by omega)).symm, rfl⟩

theorem wdB_spec (c : Int) : wdB c = ((small c != c) || (capital c != c) || (decide (48 ≤ c) && decide (c ≤ 57)) || c == 95) := by
  rw [Bool.eq_iff_iff]
  simp only [wdB, wsB, dgB, small, capital, Bool.or_eq_true, decide_eq_true_eq, bne_iff_ne, ne_eq, Bool.and_eq_true, beq_iff_eq]
  split <;> split <;> omega

set_option maxHeartbeats 1000000 in
theorem isWordByte_any (c : Int) (w : World) :
    Calls Try.prog 12 #[.int .u8 c] w fun e w' => e = .returned (.bool (wdB c)) ∧ w = w' := by
  rw [wdB_spec]
  cases h1 : (small c != c)
  · cases h2 : (capital c != c)
    · by_cases h3 : 48 ≤ c
      · by_cases h4 : c ≤ 57
        · have h5 : (c == 95) = false := by simp; omega
          go_enter Try.func12, Try.ntmps12
          go_wp2_with (first | (go_at_call 30; refine (turn (capitalOf_any _ _)).mono ?_; rintro e w' ⟨rfl, rfl⟩) | (go_at_call 29; refine (turn (smallOf_any _ _)).mono ?_; rintro e w' ⟨rfl, rfl⟩))
          go_ret
          exact ⟨ret_bool (by simp [h3, h4]), rfl⟩
        · cases h5 : (c == 95)
          all_goals
            go_enter Try.func12, Try.ntmps12
            go_wp2_with (first | (go_at_call 30; refine (turn (capitalOf_any _ _)).mono ?_; rintro e w' ⟨rfl, rfl⟩) | (go_at_call 29; refine (turn (smallOf_any _ _)).mono ?_; rintro e w' ⟨rfl, rfl⟩))
            go_ret
            exact ⟨ret_bool (by first | (simp; done) | (simp; omega)), rfl⟩
      · cases h5 : (c == 95)
        all_goals
          go_enter Try.func12, Try.ntmps12
          go_wp2_with (first | (go_at_call 30; refine (turn (capitalOf_any _ _)).mono ?_; rintro e w' ⟨rfl, rfl⟩) | (go_at_call 29; refine (turn (smallOf_any _ _)).mono ?_; rintro e w' ⟨rfl, rfl⟩))
          go_ret
          exact ⟨ret_bool (by first | (simp; done) | (simp; omega)), rfl⟩
    · go_enter Try.func12, Try.ntmps12
      go_wp2_with (first | (go_at_call 30; refine (turn (capitalOf_any _ _)).mono ?_; rintro e w' ⟨rfl, rfl⟩) | (go_at_call 29; refine (turn (smallOf_any _ _)).mono ?_; rintro e w' ⟨rfl, rfl⟩))
      go_ret
      exact ⟨rfl, rfl⟩
  · go_enter Try.func12, Try.ntmps12
    go_wp2_with (first | (go_at_call 30; refine (turn (capitalOf_any _ _)).mono ?_; rintro e w' ⟨rfl, rfl⟩) | (go_at_call 29; refine (turn (smallOf_any _ _)).mono ?_; rintro e w' ⟨rfl, rfl⟩))
    go_ret
    exact ⟨rfl, rfl⟩

def anyUp (s : ByteArray) (k : Nat) : Bool := (s.data.toList.take k).any (fun c => upB (c.toNat : Int))
theorem anyUp_one (s : ByteArray) (h : 0 < s.size) : anyUp s 1 = upB ((s[0]'h).toNat : Int) := by
  unfold anyUp
  rw [List.take_succ_eq_append_getElem (by simpa using h)]
  simp; rfl
theorem anyUp_succ (s : ByteArray) (k : Nat) (h : k < s.size) : anyUp s (k + 1) = (anyUp s k || upB ((s[k]'h).toNat : Int)) := by
  unfold anyUp
  rw [List.take_succ_eq_append_getElem (by simpa using h), List.any_append]
  simp; rfl
/-- what word found: k bytes, all behind the first word bytes, none further -/
def Run (s : ByteArray) (k : Nat) : Prop := 1 ≤ k ∧ k ≤ s.size ∧ ∀ (j : Nat) (h : j < s.size), 1 ≤ j → j < k → wdB ((s[j]'h).toNat : Int) = true

theorem Run.succ {s : ByteArray} {k : Nat} (h : Run s k) (hk : k < s.size) (hw : wdB ((s[k]'hk).toNat : Int) = true) : Run s (k + 1) := by
  obtain ⟨h1, h2, h3⟩ := h
  refine ⟨by omega, by omega, fun j hj a b => ?_⟩
  by_cases e : j = k
  · subst e; exact hw
  · exact h3 j hj a (by omega)

def tokW : ByteArray := ⟨#[119, 111, 114, 100]⟩


theorem at_setOther {B b t : Nat} {p v : Value} {bs : List Value} {w : World} {o : Nat} {cs : Array Value} {fz : Nat × Nat} (h : Lib.BuilderAtF 39 5 B b p bs w) (ht : w.heap[t]? = some (.cells cs 42 fz)) (hne : t ≠ b) : Lib.BuilderAtF 39 5 B b p bs (w.setCell ⟨t, o, none⟩ v) := by
  obtain ⟨hB, u, hbk, hown, hnb⟩ := h
  refine ⟨hB, u, by rw [Below.heap_setCell w ⟨t, o, none⟩ v b (fun e => hne e.symm)]; exact hbk, ⟨hown.1, ?_⟩, hnb⟩
  rcases hown.2 with hn | ⟨g, cap, cur, fz', hv, hbg, hg, r⟩
  · exact .inl hn
  · refine .inr ⟨g, cap, cur, fz', hv, hbg, ?_, r⟩
    have hgt : g ≠ t := by intro e; subst e; rw [hg] at ht; simp at ht
    rw [Below.heap_setCell w ⟨t, o, none⟩ v g hgt]; exact hg
theorem Bld.setOther {B b t : Nat} {l : List UInt8} {v : Value} {w : World} {o : Nat} {cs : Array Value} {fz : Nat × Nat} (h : Bld B b l w) (ht : w.heap[t]? = some (.cells cs 42 fz)) (hne : t ≠ b) : Bld B b l (w.setCell ⟨t, o, none⟩ v) := by
  obtain ⟨h, p, n, cap, c1, hpos⟩ := h
  refine ⟨?_, p, n, cap, ?_, hpos⟩
  · rcases h with h | h
    · exact .inl (at_setOther h ht hne)
    · exact .inr (at_setOther h ht hne)
  · rw [World.cell?_of_block (w := w) (Below.heap_setCell w ⟨t, o, none⟩ v b (fun e => hne e.symm))]; exact c1
theorem tok_set {w : World} {t o : Nat} {cs : Array Value} (v : Value) (ht : w.heap[t]? = some (.cells cs 42 (0, 0))) : (w.setCell ⟨t, o, none⟩ v).heap[t]? = some (.cells (cs.setIfInBounds o v) 42 (0, 0)) := by
  simp [World.setCell, Array.getElem?_modify, ht]

end Go.Proofs.Qxb6600183a
