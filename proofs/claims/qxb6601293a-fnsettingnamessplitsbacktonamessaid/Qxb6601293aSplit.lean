import Derived.Test.Qxb6601293aJoin
namespace Go.Proofs.Qxb6601293a
open Go.RowKit

def strV (s : ByteArray) : Value := .string s
theorem names_succ (S : Nat → ByteArray) (j : Nat) : (namesL S (j + 1)).map strV = (namesL S j).map strV ++ [.string (S j)] := by
  simp [namesL, List.range_succ, strV]

set_option maxHeartbeats 2000000 in
theorem split_any (X : ByteArray) (S : Nat → ByteArray) (len : Nat) (w : World) (h0 : 0 < len) (hl : len ≤ 32768) (hX : X.size ≤ 4194304) (F : Hid (Facts X S len)) :
    Calls Try.prog 14 #[.string X] w fun e w' => ∃ v, e = .returned v ∧ w'.ownsRow w.heap.size 9 1 v len ((namesL S len).map strV) ∧ Below w.heap.size w w' := by
  obtain ⟨i0, hi, hz0, hz1, hz2⟩ := info_parts info9
  go_enter Try.func14, Try.ntmps14
  go_wp2
  go_loopw [3, 4, 5] (fun v st i wr => ∃ (j p k : Nat), j < len ∧ p ≤ k ∧ k ≤ X.size ∧ st = .int .i64 p ∧ i = .int .i64 k ∧ Hid (p = pos S j ∧ k ≤ pos S j + (S j).size) ∧ wr.ownsRow w.heap.size 9 1 v j ((namesL S j).map strV) ∧ Below w.heap.size w wr) (fun _ _ i _ => X.size - (intOf i).toNat)
  case atStart => exact ⟨0, 0, 0, h0, by omega, by omega, rfl, rfl, ⟨rfl, by simp [pos]⟩, World.ownsRow_nil _ _ _ _, Below.refl _ _⟩
  case round =>
    obtain ⟨j, p, k, hj, hpk, hkX, rfl, rfl, HP, hown, hbl⟩ := hrel
    obtain ⟨f1, f2, f3, f4, f5⟩ := F.out j hj
    have HF2 := hide f2
    have HF3 := hide f3
    have HF4 := hide f4
    have HF5 := hide f5
    clear f2 f3 f4 f5
    by_cases hlt : k < X.size
    · by_cases hin : k < pos S j + (S j).size
      · have hne : (((X[k]'hlt).toNat : Int) == 44) = false := by
          have h1 := HP.out
          have := HF3.out (k - p) (by omega) (by omega)
          have e : pos S j + (k - p) = k := by omega
          simp only [e] at this
          simp; omega
        have HI := hide hin
        clear hin f1
        go_wp2
        go_roundw
        case rel => exact ⟨j, p, k + 1, hj, by omega, by omega, rfl, by go_num, ⟨HP.out.1, HI.out⟩, hown, hbl⟩
        case measure => simp [intOf]; omega
      · have hk : k = pos S j + (S j).size := by have := HP.out; omega
        have hj1 : j + 1 < len := by
          rcases Nat.lt_or_ge (j + 1) len with h | h
          · exact h
          · have := HF5.out h; omega
        obtain ⟨g1, g2, g3⟩ := HF4.out hj1
        have hk1 : k + 1 < X.size := by omega
        have he : (((X[k]'hlt).toNat : Int) == 44) = true := by
          have := g2 (by omega)
          simp only [← hk] at this
          rw [this]; rfl
        have he2 : (((X[k + 1]'hk1).toNat : Int) == 32) = true := by
          have := g3 (by omega)
          simp only [← hk] at this
          rw [this]; rfl
        have HX := hide (show X.extract p k = S j by rw [HP.out.1, hk]; exact HF2.out)
        have HK := hide hk
        clear hk g1 g2 g3 f1 hin
        go_wp2_with (at_builtin; refine wpList_append_own _ rfl _ _ 31 rfl w.heap.size 9 i0 (.string ⟨#[]⟩) 1 16 Try.underlying31 hi hz0 hz1 hz2 rfl (by decide) _ _ _ rfl (hown.alloc _) ⟨wr.heap.size, 0, none⟩ 1 1 [.string (X.extract p k)] rfl rfl ?c1 ?c2 ?c3 ?c4 ?c5 ?_)
        case c1 =>
          intro q u hq
          match q, hq with
          | 0, hq => simp at hq; subst hq; simp [Addr.add]
        case c2 => intro u hu; simp at hu; subst hu; rfl
        case c3 => unfold maxLen; omega
        case c4 => omega
        case c5 => have := hbl.size; simp; omega
        intro v' w1 hown' hgrow _
        have hb1 : Below w.heap.size w w1 := (hbl.alloc hbl.size _).grown hgrow (by have := hbl.size; simp; omega) (fun q hq => (hown.lt q hq).1)
        have ho1 : w1.ownsRow w.heap.size 9 1 v' (j + 1) ((namesL S (j + 1)).map strV) := by rw [names_succ, ← HX.out]; exact hown'
        clear hown' hgrow hown hbl
        have HO := hide ho1
        clear ho1
        go_wp2
        go_roundw
        case rel => exact ⟨j + 1, k + 2, k + 2, hj1, by omega, by omega, by go_num, by go_num, ⟨by rw [HK.out]; rfl, by rw [HK.out]; show _ ≤ pos S j + (S j).size + 2 + _; omega⟩, HO.out, hb1⟩
        case measure => simp [intOf]; omega
    · have hk : k = X.size := by omega
      have hj1 : ¬ j + 1 < len := by
        intro h
        have := HF4.out h
        have := HP.out
        omega
      have hX2 := HF5.out (by omega)
      have HX := hide (show X.extract p X.size = S j by rw [HP.out.1, hX2]; exact HF2.out)
      clear hX2 f1 hk
      go_wp2_with (at_builtin; refine wpList_append_own _ rfl _ _ 31 rfl w.heap.size 9 i0 (.string ⟨#[]⟩) 1 16 Try.underlying31 hi hz0 hz1 hz2 rfl (by decide) _ _ _ rfl (hown.alloc _) ⟨wr.heap.size, 0, none⟩ 1 1 [.string (X.extract p X.size)] rfl rfl ?d1 ?d2 ?d3 ?d4 ?d5 ?_)
      case d1 =>
        intro q u hq
        match q, hq with
        | 0, hq => simp at hq; subst hq; simp [Addr.add]
      case d2 => intro u hu; simp at hu; subst hu; rfl
      case d3 => unfold maxLen; omega
      case d4 => omega
      case d5 => have := hbl.size; simp; omega
      intro v' w1 hown' hgrow _
      have hb1 : Below w.heap.size w w1 := (hbl.alloc hbl.size _).grown hgrow (by have := hbl.size; simp; omega) (fun q hq => (hown.lt q hq).1)
      have hjl : len = j + 1 := by omega
      have ho1 : w1.ownsRow w.heap.size 9 1 v' len ((namesL S len).map strV) := by rw [hjl, names_succ, ← HX.out]; exact hown'
      have HO := hide ho1
      clear hown' hgrow hown hbl ho1 hjl
      go_wp2
      go_ret
      exact ⟨_, rfl, HO.out, hb1⟩
end Go.Proofs.Qxb6601293a
