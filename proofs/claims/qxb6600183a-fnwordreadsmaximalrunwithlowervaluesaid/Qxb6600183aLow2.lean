import Derived.Test.Qxb6600183aGrow2
namespace Go.Proofs.Qxb6600183a
open Go.RowKit

theorem string_k (B b : Nat) (l : List UInt8) (w : World) (h : Bld B b l w) (h0 : l ≠ []) :
    Calls Try.prog 15 #[.pointer (some ⟨b, 0, none⟩)] w fun e w' => e = .returned (.string ⟨l.toArray⟩) ∧ Bld B b l w' ∧ Below B w w' ∧ Lib.OthersKept 5 (some b) w w' := by
  refine (Try.Builder_String_k B b l w h.1 h0).mono ?_
  rintro e w' ⟨he, h1, hb, hk⟩
  exact ⟨he, bld_of h1 h0, hb, hk⟩
theorem writeByte_k (B b : Nat) (l : List UInt8) (c : UInt8) (n : Int) (hn : n = (c.toNat : Int)) (w : World) (h : Lib.IsBuilderF 39 5 B b (Lib.byteCells l) w) (hlen : l.length + 1 ≤ 140737488355328) (hBw : B ≤ w.heap.size) :
    Calls Try.prog 39 #[.pointer (some ⟨b, 0, none⟩), .int .u8 n] w fun e w' => e = .returned .nilIface ∧ Bld B b (l ++ [c]) w' ∧ Below B w w' ∧ Lib.OthersKept 5 (some b) w w' := by
  subst hn
  refine (Try.Builder_WriteByte_k B b (Lib.byteCells l) c.toNat w h (by rw [Lib.byteCells_length]; exact hlen) hBw).mono ?_
  rintro e w' ⟨he, h1, hb, hk⟩
  refine ⟨he, bld_of ?_ (by simp), hb, hk⟩
  rw [Lib.byteCells_append]; exact Or.inr h1

set_option maxHeartbeats 1000000 in
theorem lowered_fresh_k (s : ByteArray) (B b : Nat) (w : World) (hB : B ≤ b) (h0 : 0 < s.size) (hs : s.size ≤ 1048576)
    (hbk : w.heap[b]? = some (.cells #[.pointer none, .slice none 0 0] 39 (0, 0))) (hBw : B ≤ w.heap.size) :
    Calls Try.prog 31 #[.string s, .pointer (some ⟨b, 0, none⟩)] w fun e w' => e = .returned (.string ⟨(low s).toArray⟩) ∧ Bld B b (low s) w' ∧ Below B w w' ∧ Lib.OthersKept 5 (some b) w w' := by
  have c1 : w.cell? ⟨b, 1, none⟩ = some (.slice none 0 0) := by rw [Lib.cell_of_heap hbk]; rfl
  have hcap := turn (cap_any b none 0 0 w c1)
  go_enter Try.func31, Try.ntmps31
  go_wp2_with (first | (go_at_call 37; refine hcap.mono ?_; rintro e w' ⟨rfl, rfl⟩) | (go_at_call 38; refine (grow64 B b _ hB hbk hBw).mono ?_))
  rintro e w1 ⟨rfl, hb0', b1, k1⟩
  have hb0 : Bld B b ([] ++ lows s 0) w1 := hb0'
  have hI := hb0'.1
  have hlen := turn (Try.Builder_Len_f B b (Lib.byteCells []) w1 hI)
  rw [Lib.byteCells_length] at hlen
  clear hI hcap c1 hb0' hbk
  go_wp2_with (go_at_call 16; refine hlen.mono ?_; rintro e w' ⟨rfl, rfl⟩)
  clear hlen
  go_loopw [6, 7] (fun i c wr => ∃ k : Nat, k ≤ s.size ∧ i = .int .i64 k ∧ Hid (Bld B b ([] ++ lows s k) wr) ∧ Below B w wr ∧ Lib.OthersKept 5 (some b) w wr) (fun i _ _ => s.size - (intOf i).toNat)
  case atStart => exact ⟨0, by omega, rfl, hb0, b1, k1⟩
  case round =>
    clear hb0 b1 k1
    obtain ⟨k, hk, rfl, HB, hbw, hkw⟩ := hrel
    have hBr : B ≤ wr.heap.size := Nat.le_trans hBw hbw.size
    by_cases hlt : k < s.size
    · have hll := lows_len s k
      cases hu : upB ((s[k]'hlt).toNat : Int)
      · have hu' : ¬ (65 ≤ ((s[k]'hlt).toNat : Int) ∧ ((s[k]'hlt).toNat : Int) ≤ 90) := by simpa [upB] using hu
        have HL := hide (low_not _ hu')
        clear hu'
        have hW := fun n hn => writeByte_k B b ([] ++ lows s k) (lowU (s[k]'hlt)) n hn wr HB.out.1 (by simp; omega) hBr
        go_wp2_with (first | (go_at_call 34; refine (turn (isUpper_any _ _)).mono ?_; rintro e w' ⟨rfl, rfl⟩) | (go_at_call 39; refine (hW _ HL.out).mono ?_))
        clear hW
        rintro e w2 ⟨rfl, hb2, bb2, kk2⟩
        go_wp2
        go_roundw
        case rel => exact ⟨k + 1, by omega, by go_num, by rw [lows_succ s k hlt, ← List.append_assoc]; exact hb2, hbw.trans bb2, hkw.trans kk2⟩
        case measure => simp [intOf]; omega
      · have hu' : 65 ≤ ((s[k]'hlt).toNat : Int) ∧ ((s[k]'hlt).toNat : Int) ≤ 90 := by simpa [upB] using hu
        obtain ⟨hu1, hu2⟩ := hu'
        have HL := hide (low_up _ hu1 hu2)
        have hW := fun n hn => writeByte_k B b ([] ++ lows s k) (lowU (s[k]'hlt)) n hn wr HB.out.1 (by simp; omega) hBr
        go_wp2_with (first | (go_at_call 34; refine (turn (isUpper_any _ _)).mono ?_; rintro e w' ⟨rfl, rfl⟩) | (go_at_call 39; refine (hW _ HL.out).mono ?_))
        clear hW
        rintro e w2 ⟨rfl, hb2, bb2, kk2⟩
        go_wp2
        go_roundw
        case rel => exact ⟨k + 1, by omega, by go_num, by rw [lows_succ s k hlt, ← List.append_assoc]; exact hb2, hbw.trans bb2, hkw.trans kk2⟩
        case measure => simp [intOf]; omega
    · have hS := string_k B b ([] ++ lows s k) wr HB.out (by rw [lows_all s k hlt]; intro e; have := low_len s; rw [List.nil_append] at e; rw [e] at this; simp at this; omega)
      rw [lows_all s k hlt] at hS
      go_wp2_with (go_at_call 15; refine hS.mono ?_)
      rintro e w2 ⟨rfl, hb2, bb2, kk2⟩
      clear hS
      go_wp2
      go_ret
      exact ⟨congrArg (fun x => Ending.returned (.string x)) (extract_tail [] (low s) _ rfl), hb2, hbw.trans bb2, hkw.trans kk2⟩
end Go.Proofs.Qxb6600183a
