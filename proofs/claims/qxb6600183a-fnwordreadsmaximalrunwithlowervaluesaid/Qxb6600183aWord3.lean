import Derived.Test.Qxb6600183aWord2
namespace Go.Proofs.Qxb6600183a
open Go.RowKit

def ZPost (s : ByteArray) (B b : Nat) (w : World) (e : Ending) (w' : World) : Prop :=
  ∃ (k : Nat) (v : ByteArray), Run s k ∧ (∀ h : k < s.size, wdB ((s[k]'h).toNat : Int) = false) ∧
      e = .returned (.tuple #[.string ⟨#[119, 111, 114, 100]⟩, .string (s.extract 0 k), .string v]) ∧ Below B w w' ∧
      ((anyUp s k = true ∧ v = ⟨(low (s.extract 0 k)).toArray⟩ ∧ Bld B b (low (s.extract 0 k)) w') ∨ (anyUp s k = false ∧ v = s.extract 0 k ∧ w'.heap[b]? = some (.cells #[.pointer none, .slice none 0 0] 39 (0, 0))))

set_option maxHeartbeats 1000000 in
theorem zzword_any (s : ByteArray) (B b : Nat) (w : World) (h0 : 0 < s.size) (hs : s.size ≤ 1048576) (hB : B ≤ b)
    (hbk : w.heap[b]? = some (.cells #[.pointer none, .slice none 0 0] 39 (0, 0))) (hBw : B ≤ w.heap.size) :
    Calls Try.prog 11 #[.string s, .pointer (some ⟨b, 0, none⟩)] w fun e w' => ZPost s B b w e w' := by
  have CW := word_any s B b w h0 hs hB hbk hBw
  go_enter Try.func11, Try.ntmps11
  go_wp2_with (go_at_call 28; refine CW.mono ?_)
  rintro e w1 hpost
  obtain ⟨k, v, hrun, hend, rfl, bb, hor⟩ := hpost
  have hB1 : B ≤ w1.heap.size := Nat.le_trans hBw bb.size
  have fin : ∀ n, Below B w ((w1.alloc (.cells #[.string ⟨#[119, 111, 114, 100]⟩, .string (s.extract 0 k), .string v] 42)).drewN n) ∧
      ((anyUp s k = true ∧ v = ⟨(low (s.extract 0 k)).toArray⟩ ∧ Bld B b (low (s.extract 0 k)) ((w1.alloc (.cells #[.string ⟨#[119, 111, 114, 100]⟩, .string (s.extract 0 k), .string v] 42)).drewN n)) ∨
       (anyUp s k = false ∧ v = s.extract 0 k ∧ ((w1.alloc (.cells #[.string ⟨#[119, 111, 114, 100]⟩, .string (s.extract 0 k), .string v] 42)).drewN n).heap[b]? = some (.cells #[.pointer none, .slice none 0 0] 39 (0, 0)))) := by
    intro n
    have b2 : Below B w1 ((w1.alloc (.cells #[.string ⟨#[119, 111, 114, 100]⟩, .string (s.extract 0 k), .string v] 42)).drewN n) := ((Below.refl B w1).alloc hB1 _).trans ⟨rfl, rfl, rfl, Nat.le_refl _, fun _ _ => rfl⟩
    have b3 : Below w1.heap.size w1 ((w1.alloc (.cells #[.string ⟨#[119, 111, 114, 100]⟩, .string (s.extract 0 k), .string v] 42)).drewN n) := ((Below.refl _ w1).alloc (Nat.le_refl _) _).trans ⟨rfl, rfl, rfl, Nat.le_refl _, fun _ _ => rfl⟩
    refine ⟨bb.trans b2, ?_⟩
    rcases hor with ⟨h1, h2, h3⟩ | ⟨h1, h2, h3⟩
    · exact .inl ⟨h1, h2, h3.below b3⟩
    · refine .inr ⟨h1, h2, ?_⟩
      have hlt : b < w1.heap.size := by
        rcases Nat.lt_or_ge b w1.heap.size with h' | h'
        · exact h'
        · simp [Array.getElem?_eq_none h'] at h3
      rw [b3.block b hlt]; exact h3
  have HF := hide (And.intro hrun (And.intro hend fin))
  clear hrun hend fin hor CW bb
  go_wp2
  go_quiet (fail)
  go_wp2
  go_ret3
  exact ⟨k, v, HF.out.1, HF.out.2.1, rfl, HF.out.2.2 nq⟩

set_option maxHeartbeats 400000 in
theorem hasCapital_true (g : ByteArray) (w : World) (hs : g.size ≤ maxLen)
    (hg : Hid (∃ (k : Nat) (h : k < g.size), small ((g[k]'h).toNat : Int) ≠ ((g[k]'h).toNat : Int))) :
    Calls Try.prog 14 #[.string g] w fun e w' => e = .returned (.bool true) ∧ Drew w w' := by
  unfold maxLen at hs
  go_enter Try.func14, Try.ntmps14
  go_wp2
  go_loopw [2, 3] (fun r i wr => ∃ k : Nat, k ≤ g.size ∧ i = .int .i64 k ∧ Drew w wr ∧ Hid (∀ (j : Nat) (h : j < g.size), j < k → small ((g[j]'h).toNat : Int) = ((g[j]'h).toNat : Int))) (fun _ i _ => g.size - (intOf i).toNat)
  case atStart => exact ⟨0, by omega, rfl, Drew.refl w, fun j _ h => by omega⟩
  case round =>
    obtain ⟨k, hk, rfl, hd, HJ⟩ := hrel
    by_cases hlt : k < g.size
    · cases hne : (small ((g[k]'hlt).toNat : Int) != ((g[k]'hlt).toNat : Int))
      · go_wp2
        go_quiet ((go_at_call 29; exact Calls.quiet_of_same (smallOf_any _ _)))
        go_wp2
        go_roundw
        case rel =>
          refine ⟨k + 1, by omega, by go_num, hd.on nq, ?_⟩
          intro j h hj
          by_cases e : j = k
          · subst e; simpa using hne
          · exact HJ.out j h (by omega)
        case measure => simp [intOf]; omega
      · go_wp2
        go_quiet ((go_at_call 29; exact Calls.quiet_of_same (smallOf_any _ _)))
        go_wp2
        go_ret
        exact ⟨rfl, hd.on nq⟩
    · exfalso
      obtain ⟨j, h, hx⟩ := hg.out
      exact hx (HJ.out j h (by omega))
end Go.Proofs.Qxb6600183a
