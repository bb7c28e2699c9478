import Derived.Test.Qxb6600183aBld
import Derived.Lib.IndexBytes
namespace Go.Proofs.Qxb6600183a
open Go.RowKit

def lowU (c : UInt8) : UInt8 := if 65 ≤ c ∧ c ≤ 90 then c + 32 else c
theorem lowU_nat (c : UInt8) : ((lowU c).toNat : Int) = small (c.toNat : Int) := by
  unfold lowU small
  by_cases h : 65 ≤ c ∧ c ≤ 90
  · rw [if_pos h]
    have h' := h
    rw [UInt8.le_iff_toNat_le, UInt8.le_iff_toNat_le] at h'
    simp at h'
    rw [if_pos (by omega), UInt8.toNat_add]
    simp; omega
  · rw [if_neg h]
    rw [UInt8.le_iff_toNat_le, UInt8.le_iff_toNat_le] at h
    simp at h
    rw [if_neg (by omega)]
def lows (s : ByteArray) (k : Nat) : List UInt8 := (s.data.toList.take k).map lowU
def low (s : ByteArray) : List UInt8 := s.data.toList.map lowU
theorem lows_zero (s : ByteArray) : lows s 0 = [] := rfl
theorem lows_succ (s : ByteArray) (k : Nat) (h : k < s.size) : lows s (k + 1) = lows s k ++ [lowU (s[k]'h)] := by
  unfold lows
  rw [List.take_succ_eq_append_getElem (by simpa using h), List.map_append]; rfl
theorem lows_len (s : ByteArray) (k : Nat) : (lows s k).length ≤ k := by
  unfold lows; rw [List.length_map]; exact List.length_take_le _ _
theorem lows_all (s : ByteArray) (k : Nat) (h : ¬ k < s.size) : lows s k = low s := by
  unfold lows low; rw [List.take_of_length_le (by simpa using h)]
theorem low_len (s : ByteArray) : (low s).length = s.size := by unfold low; rw [List.length_map]; rfl
theorem extract_tail (l r : List UInt8) (n : Nat) (hn : n = (l ++ r).length) : (⟨(l ++ r).toArray⟩ : ByteArray).extract l.length n = ⟨r.toArray⟩ := by
  subst hn
  apply ByteArray.ext
  simp

theorem turn {P : Program} {f : FuncId} {args : Array Value} {w : World} {v : Ending} (h : Calls P f args w fun e w' => e = v ∧ w' = w) : Calls P f args w fun e w' => e = v ∧ w = w' :=
  h.mono fun _ _ ⟨a, b⟩ => ⟨a, b.symm⟩
theorem low_up (c : UInt8) (h1 : 65 ≤ (c.toNat : Int)) (h2 : (c.toNat : Int) ≤ 90) : (c.toNat : Int) + 32 = ((lowU c).toNat : Int) := by
  rw [lowU_nat]; unfold small; rw [if_pos ⟨h1, h2⟩]
theorem low_not (c : UInt8) (h : ¬ (65 ≤ (c.toNat : Int) ∧ (c.toNat : Int) ≤ 90)) : (c.toNat : Int) = ((lowU c).toNat : Int) := by
  rw [lowU_nat]; unfold small; rw [if_neg h]

theorem hide {p : Prop} (h : p) : Hid p := h

set_option maxHeartbeats 1000000 in
theorem lowered_fresh (s : ByteArray) (B b : Nat) (w : World) (hB : B ≤ b) (hs : s.size ≤ 1048576)
    (hbk : w.heap[b]? = some (.cells #[.pointer none, .slice none 0 0] 39 (0, 0))) (hBw : B ≤ w.heap.size) :
    Calls Try.prog 31 #[.string s, .pointer (some ⟨b, 0, none⟩)] w fun e w' => e = .returned (.string ⟨(low s).toArray⟩) ∧ Bld B b (low s) w' ∧ Below B w w' := by
  have c1 : w.cell? ⟨b, 1, none⟩ = some (.slice none 0 0) := by rw [Lib.cell_of_heap hbk]; rfl
  have hcap := turn (cap_any b none 0 0 w c1)
  go_enter Try.func31, Try.ntmps31
  go_wp2_with (first | (go_at_call 37; refine hcap.mono ?_; rintro e w' ⟨rfl, rfl⟩) | (go_at_call 38; refine (Try.Builder_Grow_fresh_cap B b 64 _ hB hbk hBw (by omega)).mono ?_))
  rintro e w1 ⟨rfl, ⟨h1, b1⟩, p, cap, c2, hcap'⟩
  have hI : Lib.IsBuilderF 39 5 B b (Lib.byteCells []) w1 := Lib.IsBuilderF.of (Or.inr h1)
  have hb0 : Bld B b ([] ++ lows s 0) w1 := ⟨hI, p, 0, cap, c2, by omega⟩
  have hlen := turn (Try.Builder_Len_f B b (Lib.byteCells []) w1 hI)
  rw [Lib.byteCells_length] at hlen
  clear hI c2 hcap hcap' c1 h1 hbk
  go_wp2_with (go_at_call 16; refine hlen.mono ?_; rintro e w' ⟨rfl, rfl⟩)
  clear hlen
  go_loopw [6, 7] (fun i c wr => ∃ k : Nat, k ≤ s.size ∧ i = .int .i64 k ∧ Hid (Bld B b ([] ++ lows s k) wr) ∧ Below B w wr) (fun i _ _ => s.size - (intOf i).toNat)
  case atStart => exact ⟨0, by omega, rfl, hb0, b1⟩
  case round =>
    clear hb0 b1
    obtain ⟨k, hk, rfl, HB, hbw⟩ := hrel
    have hBr : B ≤ wr.heap.size := Nat.le_trans hBw hbw.size
    by_cases hlt : k < s.size
    · have hll := lows_len s k
      cases hu : upB ((s[k]'hlt).toNat : Int)
      · have hu' : ¬ (65 ≤ ((s[k]'hlt).toNat : Int) ∧ ((s[k]'hlt).toNat : Int) ≤ 90) := by simpa [upB] using hu
        have HL := hide (low_not _ hu')
        clear hu'
        have hW := fun n hn => writeByte_any B b ([] ++ lows s k) (lowU (s[k]'hlt)) n hn wr HB.out.1 (by simp; omega) hBr
        go_wp2_with (first | (go_at_call 34; refine (turn (isUpper_any _ _)).mono ?_; rintro e w' ⟨rfl, rfl⟩) | (go_at_call 39; refine (hW _ HL.out).mono ?_))
        clear hW
        rintro e w2 ⟨rfl, hb2, bb2⟩
        go_wp2
        go_roundw
        case rel => exact ⟨k + 1, by omega, by go_num, by rw [lows_succ s k hlt, ← List.append_assoc]; exact hb2, hbw.trans bb2⟩
        case measure => simp [intOf]; omega
      · have hu' : 65 ≤ ((s[k]'hlt).toNat : Int) ∧ ((s[k]'hlt).toNat : Int) ≤ 90 := by simpa [upB] using hu
        obtain ⟨hu1, hu2⟩ := hu'
        have HL := hide (low_up _ hu1 hu2)
        have hW := fun n hn => writeByte_any B b ([] ++ lows s k) (lowU (s[k]'hlt)) n hn wr HB.out.1 (by simp; omega) hBr
        go_wp2_with (first | (go_at_call 34; refine (turn (isUpper_any _ _)).mono ?_; rintro e w' ⟨rfl, rfl⟩) | (go_at_call 39; refine (hW _ HL.out).mono ?_))
        clear hW
        rintro e w2 ⟨rfl, hb2, bb2⟩
        go_wp2
        go_roundw
        case rel => exact ⟨k + 1, by omega, by go_num, by rw [lows_succ s k hlt, ← List.append_assoc]; exact hb2, hbw.trans bb2⟩
        case measure => simp [intOf]; omega
    · have hS := string_any B b ([] ++ lows s k) wr HB.out
      rw [lows_all s k hlt] at hS
      go_wp2_with (go_at_call 15; refine hS.mono ?_)
      rintro e w2 ⟨rfl, hb2, bb2⟩
      clear hS
      go_wp2
      go_ret
      exact ⟨congrArg (fun x => Ending.returned (.string x)) (extract_tail [] (low s) _ rfl), hb2, hbw.trans bb2⟩
set_option maxHeartbeats 1000000 in
theorem lowered_grown (s : ByteArray) (B b : Nat) (l : List UInt8) (w : World) (hs : s.size ≤ 1048576) (hl : l.length ≤ 1073741824)
    (hw : Bld B b l w) (hBw : B ≤ w.heap.size) :
    Calls Try.prog 31 #[.string s, .pointer (some ⟨b, 0, none⟩)] w fun e w' => e = .returned (.string ⟨(low s).toArray⟩) ∧ Bld B b (l ++ low s) w' ∧ Below B w w' := by
  obtain ⟨hI, p, n, cap, c1, hpos⟩ := id hw
  have hb0 : Bld B b (l ++ lows s 0) w := by rw [lows_zero, List.append_nil]; exact hw
  have hcap := turn (cap_any b p n cap w c1)
  have hlen := turn (Try.Builder_Len_f B b (Lib.byteCells l) w hI)
  rw [Lib.byteCells_length] at hlen
  have hc0 : ((cap : Int) == 0) = false := by simp; omega
  clear hI hw c1
  go_enter Try.func31, Try.ntmps31
  go_wp2_with (first | (go_at_call 37; refine hcap.mono ?_; rintro e w' ⟨rfl, rfl⟩) | (go_at_call 16; refine hlen.mono ?_; rintro e w' ⟨rfl, rfl⟩))
  clear hlen
  go_loopw [6, 7] (fun i c wr => ∃ k : Nat, k ≤ s.size ∧ i = .int .i64 k ∧ Hid (Bld B b (l ++ lows s k) wr) ∧ Below B w wr) (fun i _ _ => s.size - (intOf i).toNat)
  case atStart => exact ⟨0, by omega, rfl, hb0, Below.refl B w⟩
  case round =>
    clear hb0 hcap hc0 hpos
    obtain ⟨k, hk, rfl, HB, hbw⟩ := hrel
    have hBr : B ≤ wr.heap.size := Nat.le_trans hBw hbw.size
    by_cases hlt : k < s.size
    · have hll := lows_len s k
      cases hu : upB ((s[k]'hlt).toNat : Int)
      · have hu' : ¬ (65 ≤ ((s[k]'hlt).toNat : Int) ∧ ((s[k]'hlt).toNat : Int) ≤ 90) := by simpa [upB] using hu
        have HL := hide (low_not _ hu')
        clear hu'
        have hW := fun n hn => writeByte_any B b (l ++ lows s k) (lowU (s[k]'hlt)) n hn wr HB.out.1 (by simp; omega) hBr
        go_wp2_with (first | (go_at_call 34; refine (turn (isUpper_any _ _)).mono ?_; rintro e w' ⟨rfl, rfl⟩) | (go_at_call 39; refine (hW _ HL.out).mono ?_))
        clear hW
        rintro e w2 ⟨rfl, hb2, bb2⟩
        go_wp2
        go_roundw
        case rel => exact ⟨k + 1, by omega, by go_num, by rw [lows_succ s k hlt, ← List.append_assoc]; exact hb2, hbw.trans bb2⟩
        case measure => simp [intOf]; omega
      · have hu' : 65 ≤ ((s[k]'hlt).toNat : Int) ∧ ((s[k]'hlt).toNat : Int) ≤ 90 := by simpa [upB] using hu
        obtain ⟨hu1, hu2⟩ := hu'
        have HL := hide (low_up _ hu1 hu2)
        have hW := fun n hn => writeByte_any B b (l ++ lows s k) (lowU (s[k]'hlt)) n hn wr HB.out.1 (by simp; omega) hBr
        go_wp2_with (first | (go_at_call 34; refine (turn (isUpper_any _ _)).mono ?_; rintro e w' ⟨rfl, rfl⟩) | (go_at_call 39; refine (hW _ HL.out).mono ?_))
        clear hW
        rintro e w2 ⟨rfl, hb2, bb2⟩
        go_wp2
        go_roundw
        case rel => exact ⟨k + 1, by omega, by go_num, by rw [lows_succ s k hlt, ← List.append_assoc]; exact hb2, hbw.trans bb2⟩
        case measure => simp [intOf]; omega
    · have hS := string_any B b (l ++ lows s k) wr HB.out
      rw [lows_all s k hlt] at hS
      go_wp2_with (go_at_call 15; refine hS.mono ?_)
      rintro e w2 ⟨rfl, hb2, bb2⟩
      clear hS
      go_wp2
      go_ret
      exact ⟨congrArg (fun x => Ending.returned (.string x)) (extract_tail l (low s) _ (by simp)), hb2, hbw.trans bb2⟩
end Go.Proofs.Qxb6600183a
