import Derived.Test.Qxb6600183aWord
namespace Go.Proofs.Qxb6600183a
open Go.RowKit

def WordPost (s : ByteArray) (B b : Nat) (w : World) (e : Ending) (w' : World) : Prop :=
  ∃ (k : Nat) (v : ByteArray), Run s k ∧ (∀ h : k < s.size, wdB ((s[k]'h).toNat : Int) = false) ∧
      e = .returned (.agg #[.string ⟨#[119, 111, 114, 100]⟩, .string (s.extract 0 k), .string v]) ∧ Below B w w' ∧
      ((anyUp s k = true ∧ v = ⟨(low (s.extract 0 k)).toArray⟩ ∧ Bld B b (low (s.extract 0 k)) w') ∨ (anyUp s k = false ∧ v = s.extract 0 k ∧ w'.heap[b]? = some (.cells #[.pointer none, .slice none 0 0] 39 (0, 0))))

set_option maxHeartbeats 1000000 in
theorem word_any (s : ByteArray) (B b : Nat) (w : World) (h0 : 0 < s.size) (hs : s.size ≤ 1048576) (hB : B ≤ b)
    (hbk : w.heap[b]? = some (.cells #[.pointer none, .slice none 0 0] 39 (0, 0))) (hBw : B ≤ w.heap.size) :
    Calls Try.prog 28 #[.string s, .pointer (some ⟨b, 0, none⟩)] w fun e w' => WordPost s B b w e w' := by
  go_enter Try.func28, Try.ntmps28
  go_wp2_with (first | (go_at_call 34; refine (turn (isUpper_any _ _)).mono ?_; rintro e w' ⟨rfl, rfl⟩))
  go_loop [5, 6] (fun n u => ∃ k : Nat, n = .int .i64 k ∧ u = .bool (anyUp s k) ∧ Run s k) (fun n _ => s.size - (intOf n).toNat)
  case atStart => exact ⟨1, rfl, by rw [anyUp_one s h0], by omega, by omega, fun j _ a b => by omega⟩
  case round =>
    obtain ⟨k, rfl, rfl, hrun⟩ := hrel
    have HR := hide hrun
    obtain ⟨hk1, hk2, _⟩ := hrun
    have hbl : b < w.heap.size := by
      rcases Nat.lt_or_ge b w.heap.size with h' | h'
      · exact h'
      · simp [Array.getElem?_eq_none h'] at hbk
    have hes : (s.extract 0 k).size = k := by simp; omega
    have CL := hide (lowered_fresh_k (s.extract 0 k) B b (w.alloc (.cells #[.string ⟨#[]⟩, .string ⟨#[]⟩, .string ⟨#[]⟩] 42)) hB (by omega) (by omega) (by rw [Lib.alloc_old w _ b hbl]; exact hbk) (by simp; omega))
    clear hes
    by_cases hlt : k < s.size
    · cases hw : wsB ((s[k]'hlt).toNat : Int)
      · cases hd : dgB ((s[k]'hlt).toNat : Int)
        · have HE : Hid (∀ h : k < s.size, wdB ((s[k]'h).toNat : Int) = false) := fun _ => by unfold wdB; rw [hw, hd]; rfl
          cases hu : anyUp s k
          · go_wp2_with (first | (go_at_call 34; refine (turn (isUpper_any _ _)).mono ?_; rintro e w' ⟨rfl, rfl⟩) | (go_at_call 35; refine (isWordStart_any _ _).mono ?_; rintro e w' ⟨rfl, rfl⟩) | (go_at_call 36; refine (isDigit_any _ _).mono ?_; rintro e w' ⟨rfl, rfl⟩))
            refine bodyPost_ret (v := .agg #[.string ⟨#[119, 111, 114, 100]⟩, .string (s.extract 0 k), .string (s.extract 0 k)]) (by simp [results, Try.results28, go_sem]) rfl ⟨k, s.extract 0 k, HR.out, HE.out, rfl, ?_, .inr ⟨hu, rfl, ?_⟩⟩
            · exact (Below.refl B w).alloc hBw _
            · rw [Lib.alloc_old w _ b hbl]; exact hbk
          · go_wp2_with (first | (go_at_call 34; refine (turn (isUpper_any _ _)).mono ?_; rintro e w' ⟨rfl, rfl⟩) | (go_at_call 35; refine (isWordStart_any _ _).mono ?_; rintro e w' ⟨rfl, rfl⟩) | (go_at_call 36; refine (isDigit_any _ _).mono ?_; rintro e w' ⟨rfl, rfl⟩) | (go_at_call 31; refine CL.out.mono ?_))
            first | rintro e w1 rfl hb1 bb1 kk1 | rintro e w1 ⟨rfl, hb1, bb1, kk1⟩
            have ht1 : w1.heap[w.heap.size]? = some (.cells #[.string ⟨#[]⟩, .string ⟨#[]⟩, .string ⟨#[]⟩] 42 (0, 0)) := kk1 _ _ (heap_alloc_new w _) (by simp; omega) (by simp)
            have t0 : w1.cell? ⟨w.heap.size, 0, none⟩ = some (.string ⟨#[]⟩) := by rw [Lib.cell_of_heap ht1]; rfl
            have t1 : w1.cell? ⟨w.heap.size, 1, none⟩ = some (.string ⟨#[]⟩) := by rw [Lib.cell_of_heap ht1]; rfl
            have t2 : w1.cell? ⟨w.heap.size, 2, none⟩ = some (.string ⟨#[]⟩) := by rw [Lib.cell_of_heap ht1]; rfl
            have f0 : ∀ j, w1.frozen? ⟨w.heap.size, j, none⟩ = false := fun j => Lib.frozen_of_heap ht1 j
            have hsh : w1.shape? w.heap.size = some (42, 3) := by simp [World.shape?, ht1]
            have q0 : (w1.setCell ⟨w.heap.size, 0, none⟩ (.string ⟨#[119, 111, 114, 100]⟩)).cell? ⟨w.heap.size, 0, none⟩ = some (.string ⟨#[119, 111, 114, 100]⟩) := World.cell?_setCell_same _ _ _ t0
            have q1 : ∀ x, (w1.setCell ⟨w.heap.size, 0, none⟩ (.string ⟨#[119, 111, 114, 100]⟩) |>.setCell ⟨w.heap.size, 1, none⟩ x).cell? ⟨w.heap.size, 1, none⟩ = some x := fun x => World.cell?_setCell_same _ _ _ (by rw [Lib.cell_of_heap (tok_set _ ht1)]; rfl)
            have q2 : ∀ x y, ((w1.setCell ⟨w.heap.size, 0, none⟩ (.string ⟨#[119, 111, 114, 100]⟩)).setCell ⟨w.heap.size, 1, none⟩ x |>.setCell ⟨w.heap.size, 2, none⟩ y).cell? ⟨w.heap.size, 2, none⟩ = some y := fun x y => World.cell?_setCell_same _ _ _ (by rw [Lib.cell_of_heap (tok_set _ (tok_set _ ht1))]; rfl)
            have HB1 := hide (And.intro hb1 (And.intro bb1 ht1))
            clear hb1 bb1 kk1 ht1
            go_wp2
            refine bodyPost_ret (v := .agg #[.string ⟨#[119, 111, 114, 100]⟩, .string (s.extract 0 k), .string ⟨(low (s.extract 0 k)).toArray⟩]) (by simp [results, Try.results28, go_sem, q0, q1, q2]) rfl ⟨k, _, HR.out, HE.out, rfl, ?_, .inl ⟨hu, rfl, ?_⟩⟩
            · exact ((((((Below.refl B w).alloc hBw _).trans HB1.out.2.1).setCell (p := ⟨w.heap.size, 0, none⟩) hBw _).setCell (p := ⟨w.heap.size, 1, none⟩) hBw _).setCell (p := ⟨w.heap.size, 2, none⟩) hBw _)
            · exact ((HB1.out.1.setOther HB1.out.2.2 (by omega)).setOther (tok_set _ HB1.out.2.2) (by omega)).setOther (tok_set _ (tok_set _ HB1.out.2.2)) (by omega)
        · have HE : Hid (wdB ((s[k]'hlt).toNat : Int) = true) := by show wdB _ = true; unfold wdB; rw [hw, hd]; rfl
          cases hu : anyUp s k
          · cases hu2 : upB ((s[k]'hlt).toNat : Int)
            all_goals
              go_wp2_with (first | (go_at_call 34; refine (turn (isUpper_any _ _)).mono ?_; rintro e w' ⟨rfl, rfl⟩) | (go_at_call 35; refine (isWordStart_any _ _).mono ?_; rintro e w' ⟨rfl, rfl⟩) | (go_at_call 36; refine (isDigit_any _ _).mono ?_; rintro e w' ⟨rfl, rfl⟩))
              go_round
              case rel => exact ⟨k + 1, by go_num, by rw [anyUp_succ s k hlt, hu, hu2]; rfl, HR.out.succ hlt HE.out⟩
              case measure => simp [intOf]; omega
          · go_wp2_with (first | (go_at_call 34; refine (turn (isUpper_any _ _)).mono ?_; rintro e w' ⟨rfl, rfl⟩) | (go_at_call 35; refine (isWordStart_any _ _).mono ?_; rintro e w' ⟨rfl, rfl⟩) | (go_at_call 36; refine (isDigit_any _ _).mono ?_; rintro e w' ⟨rfl, rfl⟩))
            go_round
            case rel => exact ⟨k + 1, by go_num, by rw [anyUp_succ s k hlt, hu]; rfl, HR.out.succ hlt HE.out⟩
            case measure => simp [intOf]; omega
      · have HE : Hid (wdB ((s[k]'hlt).toNat : Int) = true) := by show wdB _ = true; unfold wdB; rw [hw]; rfl
        cases hu : anyUp s k
        · cases hu2 : upB ((s[k]'hlt).toNat : Int)
          all_goals
            go_wp2_with (first | (go_at_call 34; refine (turn (isUpper_any _ _)).mono ?_; rintro e w' ⟨rfl, rfl⟩) | (go_at_call 35; refine (isWordStart_any _ _).mono ?_; rintro e w' ⟨rfl, rfl⟩) | (go_at_call 36; refine (isDigit_any _ _).mono ?_; rintro e w' ⟨rfl, rfl⟩))
            go_round
            case rel => exact ⟨k + 1, by go_num, by rw [anyUp_succ s k hlt, hu, hu2]; rfl, HR.out.succ hlt HE.out⟩
            case measure => simp [intOf]; omega
        · go_wp2_with (first | (go_at_call 34; refine (turn (isUpper_any _ _)).mono ?_; rintro e w' ⟨rfl, rfl⟩) | (go_at_call 35; refine (isWordStart_any _ _).mono ?_; rintro e w' ⟨rfl, rfl⟩) | (go_at_call 36; refine (isDigit_any _ _).mono ?_; rintro e w' ⟨rfl, rfl⟩))
          go_round
          case rel => exact ⟨k + 1, by go_num, by rw [anyUp_succ s k hlt, hu]; rfl, HR.out.succ hlt HE.out⟩
          case measure => simp [intOf]; omega
    · have HE : Hid (∀ h : k < s.size, wdB ((s[k]'h).toNat : Int) = false) := fun h => absurd h hlt
      cases hu : anyUp s k
      · go_wp2_with (first | (go_at_call 34; refine (turn (isUpper_any _ _)).mono ?_; rintro e w' ⟨rfl, rfl⟩) | (go_at_call 35; refine (isWordStart_any _ _).mono ?_; rintro e w' ⟨rfl, rfl⟩) | (go_at_call 36; refine (isDigit_any _ _).mono ?_; rintro e w' ⟨rfl, rfl⟩))
        refine bodyPost_ret (v := .agg #[.string ⟨#[119, 111, 114, 100]⟩, .string (s.extract 0 k), .string (s.extract 0 k)]) (by simp [results, Try.results28, go_sem]) rfl ⟨k, s.extract 0 k, HR.out, HE.out, rfl, ?_, .inr ⟨hu, rfl, ?_⟩⟩
        · exact (Below.refl B w).alloc hBw _
        · rw [Lib.alloc_old w _ b hbl]; exact hbk
      · go_wp2_with (first | (go_at_call 34; refine (turn (isUpper_any _ _)).mono ?_; rintro e w' ⟨rfl, rfl⟩) | (go_at_call 35; refine (isWordStart_any _ _).mono ?_; rintro e w' ⟨rfl, rfl⟩) | (go_at_call 36; refine (isDigit_any _ _).mono ?_; rintro e w' ⟨rfl, rfl⟩) | (go_at_call 31; refine CL.out.mono ?_))
        first | rintro e w1 rfl hb1 bb1 kk1 | rintro e w1 ⟨rfl, hb1, bb1, kk1⟩
        have ht1 : w1.heap[w.heap.size]? = some (.cells #[.string ⟨#[]⟩, .string ⟨#[]⟩, .string ⟨#[]⟩] 42 (0, 0)) := kk1 _ _ (heap_alloc_new w _) (by simp; omega) (by simp)
        have t0 : w1.cell? ⟨w.heap.size, 0, none⟩ = some (.string ⟨#[]⟩) := by rw [Lib.cell_of_heap ht1]; rfl
        have t1 : w1.cell? ⟨w.heap.size, 1, none⟩ = some (.string ⟨#[]⟩) := by rw [Lib.cell_of_heap ht1]; rfl
        have t2 : w1.cell? ⟨w.heap.size, 2, none⟩ = some (.string ⟨#[]⟩) := by rw [Lib.cell_of_heap ht1]; rfl
        have f0 : ∀ j, w1.frozen? ⟨w.heap.size, j, none⟩ = false := fun j => Lib.frozen_of_heap ht1 j
        have hsh : w1.shape? w.heap.size = some (42, 3) := by simp [World.shape?, ht1]
        have q0 : (w1.setCell ⟨w.heap.size, 0, none⟩ (.string ⟨#[119, 111, 114, 100]⟩)).cell? ⟨w.heap.size, 0, none⟩ = some (.string ⟨#[119, 111, 114, 100]⟩) := World.cell?_setCell_same _ _ _ t0
        have q1 : ∀ x, (w1.setCell ⟨w.heap.size, 0, none⟩ (.string ⟨#[119, 111, 114, 100]⟩) |>.setCell ⟨w.heap.size, 1, none⟩ x).cell? ⟨w.heap.size, 1, none⟩ = some x := fun x => World.cell?_setCell_same _ _ _ (by rw [Lib.cell_of_heap (tok_set _ ht1)]; rfl)
        have q2 : ∀ x y, ((w1.setCell ⟨w.heap.size, 0, none⟩ (.string ⟨#[119, 111, 114, 100]⟩)).setCell ⟨w.heap.size, 1, none⟩ x |>.setCell ⟨w.heap.size, 2, none⟩ y).cell? ⟨w.heap.size, 2, none⟩ = some y := fun x y => World.cell?_setCell_same _ _ _ (by rw [Lib.cell_of_heap (tok_set _ (tok_set _ ht1))]; rfl)
        have HB1 := hide (And.intro hb1 (And.intro bb1 ht1))
        clear hb1 bb1 kk1 ht1
        go_wp2
        refine bodyPost_ret (v := .agg #[.string ⟨#[119, 111, 114, 100]⟩, .string (s.extract 0 k), .string ⟨(low (s.extract 0 k)).toArray⟩]) (by simp [results, Try.results28, go_sem, q0, q1, q2]) rfl ⟨k, _, HR.out, HE.out, rfl, ?_, .inl ⟨hu, rfl, ?_⟩⟩
        · exact ((((((Below.refl B w).alloc hBw _).trans HB1.out.2.1).setCell (p := ⟨w.heap.size, 0, none⟩) hBw _).setCell (p := ⟨w.heap.size, 1, none⟩) hBw _).setCell (p := ⟨w.heap.size, 2, none⟩) hBw _)
        · exact ((HB1.out.1.setOther HB1.out.2.2 (by omega)).setOther (tok_set _ HB1.out.2.2) (by omega)).setOther (tok_set _ (tok_set _ HB1.out.2.2)) (by omega)
end Go.Proofs.Qxb6600183a
