import Derived.Test.Qxb6601293aSplit
namespace Go.Proofs.Qxb6601293a
open Go.RowKit

def Drew (w w' : World) : Prop := ∃ n, w' = w.drewN n
theorem Drew.refl (w : World) : Drew w w := ⟨0, rfl⟩
theorem Drew.on {w w' : World} (h : Drew w w') (n : Nat) : Drew w (w'.drewN n) := by
  obtain ⟨m, rfl⟩ := h; exact ⟨m + n, by rw [World.drewN_drewN]⟩
theorem Drew.below {w w' : World} (h : Drew w w') (B : Nat) : Below B w w' := by
  obtain ⟨n, rfl⟩ := h; exact ⟨rfl, rfl, rfl, Nat.le_refl _, fun _ _ => rfl⟩
theorem Drew.cell {w w' : World} (h : Drew w w') (p : Addr) : w'.cell? p = w.cell? p := by
  obtain ⟨n, rfl⟩ := h; rfl
theorem size_tot (S : Nat → ByteArray) (k : Nat) : ∀ len, k < len → (S k).size ≤ tot S len
  | 0, h => by omega
  | len + 1, h => by
    show (S k).size ≤ tot S len + (S len).size
    by_cases e : k = len
    · subst e; omega
    · have := size_tot S k len (by omega); omega

theorem empty3 (a : Option Addr) (cap : Nat) (w : World) :
    Calls Try.prog 3 #[.slice a 0 cap] w fun e w' => e = .returned (.bool true) ∧ Below w.heap.size w w' := by
  have c1 := zz8_none a cap w
  have c2 := big9_none a cap w
  go_enter Try.func3, Try.ntmps3
  go_wp2_with (go_at_call 8; refine c1.mono ?_)
  rintro e _ ⟨⟨r, rfl⟩, rfl⟩
  cases r
  · go_wp2
    go_ret
    exact ⟨rfl, Below.refl _ _⟩
  · go_wp2_with (go_at_call 9; refine c2.mono ?_)
    rintro e _ ⟨⟨r, rfl⟩, rfl⟩
    cases r
    all_goals
      go_wp2
      go_ret
      exact ⟨rfl, Below.refl _ _⟩

set_option maxHeartbeats 2000000 in
theorem main3 (b off len cap : Nat) (S : Nat → ByteArray) (L : Nat → Int) (T : Nat → Bool) (w : World) (h0 : 0 < len) (hl : len ≤ maxLen)
    (hc : ∀ j, j < len * 3 → w.cell? ⟨b, off + j, none⟩ = some (setC S L T j)) :
    Calls Try.prog 3 #[.slice (some ⟨b, off, none⟩) len cap] w fun e w' => e = .returned (.bool true) ∧ Below w.heap.size w w' := by
  have hcn : ∀ i, i < len → w.cell? ⟨b, off + i * 3, none⟩ = some (.string (S i)) := fun i hi => by rw [hc (i * 3) (by omega), setC0]
  have hb : b < w.heap.size := by
    have h1 := hcn 0 h0
    rcases Nat.lt_or_ge b w.heap.size with h' | h'
    · exact h'
    · simp [World.cell?, Array.getElem?_eq_none h'] at h1
  have c1 := zz8_row b off len cap S w hl hcn
  have c2 := big9_row b off len cap S w hl hcn
  have hz : ((len : Int) == 0) = false := by simp; omega
  have HC := hide hc
  have HN := hide hcn
  clear hc hcn
  go_enter Try.func3, Try.ntmps3
  go_wp2_with (go_at_call 8; refine c1.mono ?_)
  rintro e _ ⟨⟨r, rfl⟩, rfl⟩
  cases r
  · go_wp2
    go_ret
    exact ⟨rfl, Below.refl _ _⟩
  · go_wp2_with (go_at_call 9; refine c2.mono ?_)
    rintro e _ ⟨⟨r, rfl, hr⟩, rfl⟩
    cases r
    · obtain ⟨hl2, htot⟩ := hr rfl
      clear c1 c2 hr hl
      go_wp2
      go_loop [2, 3] (fun _ i => ∃ k : Nat, k ≤ len ∧ i = .int .i64 k ∧ Hid (∀ j, j < k → NoComma (S j))) (fun _ i => len - (intOf i).toNat)
      case atStart => exact ⟨0, by omega, rfl, fun j h => by omega⟩
      case round =>
        obtain ⟨k, hk, rfl, HJ⟩ := hrel
        by_cases hlt : k < len
        · have hck := HN.out k hlt
          have hsz := size_tot S k len hlt
          have cc := comma_any (S k) w (by omega)
          go_wp2_with (go_at_call 10; refine cc.mono ?_)
          first | rintro e _ ⟨⟨r, rfl, hr⟩, rfl⟩ | rintro e ⟨r, rfl, hr⟩
          cases r
          · have HR := hide (hr rfl)
            clear cc hck hsz hr
            go_wp2
            go_round
            case rel =>
              refine ⟨k + 1, by omega, by go_num, ?_⟩
              intro j hj
              by_cases e : j = k
              · subst e; exact HR.out
              · exact HJ.out j (by omega)
            case measure => simp [intOf]; omega
          · go_wp2
            go_ret
            exact ⟨rfl, Below.refl _ _⟩
        · have hk' : k = len := by omega
          have hF := facts S len (fun j hj => HJ.out j (by omega))
          have htl := text_len S len h0
          have c3 := copySets b off len cap S L T w hl2 hb HC.out
          clear hk'
          go_wp2_with (go_at_call 11; refine c3.mono ?_)
          first | rintro e w1 rfl r1 b1 | rintro e w1 ⟨rfl, r1, b1⟩
          clear c3
          have c4 := toKnown w.heap.size len S L T w1 hl2 r1.lt (fun j hj => r1.cell hj)
          have R1 := hide r1
          clear r1
          go_wp2_with (go_at_call 13; refine c4.mono ?_)
          first | rintro e w2 rfl r2 b2 | rintro e w2 ⟨rfl, r2, b2⟩
          clear c4
          have c5 := names_any w1.heap.size len S L T w2 h0 hl2 r2.lt (by omega) (fun j hj => r2.cell hj)
          clear r2
          go_wp2_with (first | (go_at_call 12; go_in) | (go_at_call 25; refine c5.mono ?_))
          first | rintro e w3 rfl b3 | rintro e w3 ⟨rfl, b3⟩
          clear c5
          have c6 := split_any ⟨(textL S len).toArray⟩ S len w3 h0 hl2 (show (textL S len).length ≤ _ by omega) hF
          clear hF
          go_wp2_with (go_at_call 14; refine c6.mono ?_)
          rintro e w4 ⟨v, rfl, ho, b4⟩
          obtain ⟨g, cap4, hv, hg⟩ : ∃ g cap4, v = .slice (some ⟨g, 0, none⟩) len cap4 ∧ ∀ j, j < len → w4.cell? ⟨g, j, none⟩ = some (.string (S j)) := by
            rcases ho.2 with ⟨_, hz⟩ | ⟨g, cap4, cur, hv, r⟩
            · omega
            · refine ⟨g, cap4, hv, fun j hj => ?_⟩
              have := ho.cells (g := g) (by rw [hv]; rfl) j (.string (S j)) (by simp [namesL, strV, hj])
              have ha : (⟨g, 0, none⟩ : Addr).add j = ⟨g, j, none⟩ := by unfold Addr.add; split <;> simp_all
              rw [ha] at this; exact this
          rw [hv]
          clear hv ho c6
          have hz1 : w.heap.size < w1.heap.size := R1.out.lt
          have hz2 : w1.heap.size ≤ w2.heap.size := b2.size
          have hz3 : w2.heap.size ≤ w3.heap.size := b3.size
          have hs4 : ∀ j, j < len → w4.cell? ⟨w.heap.size, j * 3, none⟩ = some (.string (S j)) := fun j hj => by
            rw [b4.cell (p := ⟨w.heap.size, j * 3, none⟩) (show w.heap.size < w3.heap.size by omega), b3.cell (p := ⟨w.heap.size, j * 3, none⟩) (show w.heap.size < w2.heap.size by omega), b2.cell (p := ⟨w.heap.size, j * 3, none⟩) hz1, R1.out.cell (by omega), setC0]
          have B4 := hide (b1.trans ((b2.mono (by omega)).trans ((b3.mono (by omega)).trans (b4.mono (by omega)))))
          clear b1 b2 b3 b4
          have HG := hide hg
          have HS := hide hs4
          clear hg hs4
          go_wp2
          go_loopw [2, 6] (fun _ i wr => ∃ q : Nat, q ≤ len ∧ i = .int .i64 q ∧ Drew w4 wr) (fun _ i _ => len - (intOf i).toNat)
          case atStart => exact ⟨0, by omega, rfl, Drew.refl _⟩
          case round =>
            obtain ⟨q, hq, rfl, hd⟩ := hrel
            by_cases hql : q < len
            · have e1 : wr.cell? ⟨g, q, none⟩ = some (.string (S q)) := by rw [hd.cell]; exact HG.out q hql
              have e2 : wr.cell? ⟨w.heap.size, q * 3, none⟩ = some (.string (S q)) := by rw [hd.cell]; exact HS.out q hql
              have hql' : (q : Int) < (len : Int) := by omega
              go_wp2
              go_quiet (fail)
              go_wp2
              go_roundw
              case rel => exact ⟨q + 1, by omega, by go_num, hd.on nq⟩
              case measure => simp [intOf]; omega
            · go_wp2
              go_ret
              exact ⟨rfl, B4.out.trans (hd.below _)⟩
    · go_wp2
      go_ret
      exact ⟨rfl, Below.refl _ _⟩

theorem walk3 (a : Option Addr) (len cap : Nat) (w : World) (hl : len ≤ maxLen)
    (h : len = 0 ∨ ∃ b off, a = some ⟨b, off, none⟩ ∧ ∃ S L T, ∀ j, j < len * 3 → w.cell? ⟨b, off + j, none⟩ = some (setC S L T j)) :
    Calls Try.prog 3 #[.slice a len cap] w fun e w' => e = .returned (.bool true) ∧ Below w.heap.size w w' := by
  by_cases h0 : len = 0
  · subst h0; exact empty3 a cap w
  · rcases h with h | ⟨b, off, rfl, S, L, T, hc⟩
    · exact absurd h h0
    · exact main3 b off len cap S L T w (by omega) hl hc
end Go.Proofs.Qxb6601293a
