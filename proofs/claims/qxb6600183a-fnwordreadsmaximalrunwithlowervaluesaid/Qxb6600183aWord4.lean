import Derived.Test.Qxb6600183aWord3
import Derived.Test.Qxb6600183aLawB
namespace Go.Proofs.Qxb6600183a
open Go.RowKit

def NoCap (t : ByteArray) : Prop := ∀ (k : Nat) (h : k < t.size), small ((t[k]'h).toNat : Int) = ((t[k]'h).toNat : Int)
def HasCap (t : ByteArray) : Prop := ∃ (k : Nat) (h : k < t.size), small ((t[k]'h).toNat : Int) ≠ ((t[k]'h).toNat : Int)
def Nice (s t : ByteArray) : Prop := 1 ≤ t.size ∧ t.size ≤ s.size ∧ (∀ (j : Nat) (h : j < t.size), 1 ≤ j → wdB ((t[j]'h).toNat : Int) = true) ∧
  (∀ h : t.size < s.size, wdB ((s[t.size]'h).toNat : Int) = false) ∧ t = s.extract 0 t.size

theorem ex_get (s : ByteArray) (k j : Nat) (hk : k ≤ s.size) (h : j < (s.extract 0 k).size) : (s.extract 0 k)[j] = s[j]'(by simp at h; omega) := by
  simp [ByteArray.getElem_extract]
theorem ex_size (s : ByteArray) (k : Nat) (hk : k ≤ s.size) : (s.extract 0 k).size = k := by simp; omega
theorem up_small (c : Int) (h : upB c = true) : small c ≠ c := by
  unfold small; rw [if_pos (by simpa [upB] using h)]; omega
theorem notup_small (c : Int) (h : upB c = false) : small c = c := by
  unfold small; rw [if_neg (by simpa [upB] using h)]

theorem nice_of (s : ByteArray) (k : Nat) (h : Run s k) (hend : ∀ h : k < s.size, wdB ((s[k]'h).toNat : Int) = false) : Nice s (s.extract 0 k) := by
  obtain ⟨h1, h2, h3⟩ := h
  have e := ex_size s k h2
  refine ⟨by omega, by omega, fun j hj a => ?_, ?_, by rw [e]⟩
  · rw [ex_get s k j h2 hj]; exact h3 j (by omega) a (by omega)
  · intro hlt
    have : s[(s.extract 0 k).size]'hlt = s[k]'(by omega) := by congr 1
    rw [this]; exact hend _
theorem hascap_of (s : ByteArray) (k : Nat) (hk : k ≤ s.size) (h : anyUp s k = true) : HasCap (s.extract 0 k) := by
  unfold anyUp at h
  rw [List.any_eq_true] at h
  obtain ⟨x, hx, hu⟩ := h
  obtain ⟨j, hj, e⟩ := List.getElem_of_mem hx
  have hj' : j < k := by
    have := List.length_take_le k s.data.toList; omega
  refine ⟨j, by rw [ex_size s k hk]; exact hj', ?_⟩
  rw [ex_get s k j hk]
  have : s[j]'(by omega) = x := by rw [← e]; simp; rfl
  rw [this]; exact up_small _ hu
theorem nocap_of (s : ByteArray) (k : Nat) (hk : k ≤ s.size) (h : anyUp s k = false) : NoCap (s.extract 0 k) := by
  intro j hj
  rw [ex_get s k j hk hj]
  have hj' : j < k := by rw [ex_size s k hk] at hj; exact hj
  apply notup_small
  unfold anyUp at h
  rw [List.any_eq_false] at h
  have hm : s[j]'(by omega) ∈ s.data.toList.take k := by
    rw [List.mem_take_iff_getElem]
    exact ⟨j, by have : s.data.toList.length = s.size := rfl; omega, by simp; rfl⟩
  simpa using h _ hm

def ZPost2 (s : ByteArray) (B b : Nat) (w : World) (e : Ending) (w' : World) : Prop :=
  ∃ (t v : ByteArray), Nice s t ∧ e = .returned (.tuple #[.string ⟨#[119, 111, 114, 100]⟩, .string t, .string v]) ∧ Below B w w' ∧
      ((HasCap t ∧ v = ⟨(low t).toArray⟩ ∧ Bld B b (low t) w') ∨ (NoCap t ∧ v = t ∧ w'.heap[b]? = some (.cells #[.pointer none, .slice none 0 0] 39 (0, 0))))
theorem zpost2 {s : ByteArray} {B b : Nat} {w w' : World} {e : Ending} (h : ZPost s B b w e w') : ZPost2 s B b w e w' := by
  obtain ⟨k, v, h1, h2, h3, h4, h5⟩ := h
  refine ⟨s.extract 0 k, v, nice_of s k h1 h2, h3, h4, ?_⟩
  rcases h5 with ⟨a, b, c⟩ | ⟨a, b, c⟩
  · exact .inl ⟨hascap_of s k h1.2.1 a, b, c⟩
  · exact .inr ⟨nocap_of s k h1.2.1 a, b, c⟩

theorem isLow_same (t : ByteArray) (w : World) (hs : t.size ≤ 1048576) (h : NoCap t) :
    Calls Try.prog 13 #[.string t, .string t] w fun e w' => e = .returned (.bool true) ∧ Drew w w' :=
  isLowerCopy_true t t w (by unfold maxLen; omega) (Nat.le_refl _) (Nat.le_refl _) (fun k h1 _ => (h k h1).symm)
end Go.Proofs.Qxb6600183a
