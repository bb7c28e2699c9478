import Derived.Test.Qxb6601306aExp4
import Derived.Test.Qxb6601306aShelf
import Derived.BigRegion
namespace Go.Proofs.Qxb6601306a
open Go.RowKit

def strLen : Value → Nat
  | .string s => s.size
  | _ => 0
theorem refAt_at {X : ByteArray} {i : Nat} (h : refAt X i) : ∃ h1 : i + 1 < X.size, digB ((X[i + 1]'h1).toNat : Int) = true := by
  obtain ⟨h1, h2⟩ := h
  unfold isRef at h2
  rw [Bool.and_eq_true] at h2
  exact ⟨h1, h2.2⟩
theorem extract_take (X : ByteArray) (i : Nat) : (X.extract 0 i).data.toList = X.data.toList.take i := by simp
theorem write_any (B b : Nat) (l : List UInt8) (X : ByteArray) (w : World) (h : Lib.IsBuilderF 45 5 B b (Lib.byteCells l) w) (hlen : l.length + X.size ≤ 140737488355328) (hBw : B ≤ w.heap.size) :
    Calls Try.prog 37 #[.pointer (some ⟨b, 0, none⟩), .string X] w fun e w' => e = .returned (.tuple #[.int .i64 X.size, .nilIface]) ∧ Lib.IsBuilderF 45 5 B b (Lib.byteCells (l ++ X.data.toList)) w' ∧ Below B w w' := by
  refine (Try.Builder_WriteString_k B b (Lib.byteCells l) X w h (by rw [Lib.byteCells_length]; exact hlen) hBw).mono ?_
  rintro e w' ⟨he, h1, hb, _⟩
  refine ⟨he, ?_, hb⟩
  rw [Lib.byteCells_append]; exact Or.inr h1
/-- one step of expand: the text ahead of the first reference, the group, what is left -/
theorem E_step (G : Nat → List UInt8) (X : ByteArray) (i : Nat) (hr : refAt X i) (hn : ∀ j, j < i → ¬ refAt X j) (h1 : i + 1 < X.size) :
    E G X 0 = (X.extract 0 i).data.toList ++ (G ((X[i + 1]'h1).toNat - 48) ++ E G (X.extract (i + 2) X.size) 0) := by
  obtain ⟨h2, h3⟩ := hr
  rw [E_prefix G X i (by omega) hn, E_yes G X i h2 h3, E_cut, extract_take]

set_option maxHeartbeats 4000000 in
theorem expand_row (T s : ByteArray) (b off len cap : Nat) (Z : Nat → Int) (w : World) (hT : T.size ≤ 1048576) (hs : s.size ≤ 1048576) (hv : Hid (Valid s.size Z len)) (hb : b < w.heap.size)
    (hc : Hid (∀ i, i < len → w.cell? ⟨b, off + i, none⟩ = some (.int .i64 (Z i)))) :
    Calls Try.prog 31 #[.string T, .string s, .slice (some ⟨b, off, none⟩) len cap] w fun e w' => e = .returned (.string ⟨(E (G s Z len) T 0).toArray⟩) ∧ Below w.heap.size w w' := by
  go_enter Try.func31, Try.ntmps31
  go_wp2
  go_loopw [0, 8, 9] (fun t _ _ wr => ∃ (X : ByteArray) (acc : List UInt8), t = .string X ∧ X.size ≤ T.size ∧ Lib.IsBuilderF 45 5 w.heap.size w.heap.size (Lib.byteCells acc) wr ∧ Below w.heap.size w wr ∧ Hid (acc ++ E (G s Z len) X 0 = E (G s Z len) T 0) ∧ acc.length + X.size * 1048576 ≤ T.size * 1048576) (fun t _ _ _ => strLen t)
  case atStart => exact ⟨T, [], rfl, Nat.le_refl _, Lib.IsBuilderF.of (Lib.fresh_isBuilder 45 5 w), (Below.refl _ w).alloc (Nat.le_refl _) _, by show [] ++ _ = _; rfl, by simp⟩
  case round =>
    obtain ⟨X, acc, rfl, hXT, hI, hbl, HE, hal⟩ := hrel
    have hBr : w.heap.size ≤ wr.heap.size := hbl.size
    have cn := next_any X wr (by omega)
    go_wp2_with (go_at_call 36; refine cn.mono ?_)
    rintro e _ ⟨hans, rfl⟩
    rcases hans with ⟨rfl, hn⟩ | ⟨i, rfl, hr, hn⟩
    · have HN : Hid (acc ++ X.data.toList = E (G s Z len) T 0) := by
        show acc ++ _ = _
        rw [← HE.out, E_none _ X hn]
      clear hn cn HE
      have c1 := write_any w.heap.size w.heap.size acc X wr hI (by omega) hBr
      clear hI
      go_wp2_with (go_at_call 37; refine c1.mono ?_)
      first | rintro e w1 rfl hI1 b1 | rintro e w1 ⟨rfl, hI1, b1⟩
      clear c1
      have c2 := Try.Builder_String_any_k w.heap.size w.heap.size (acc ++ X.data.toList) w1 hI1 (Nat.le_trans hBr b1.size)
      clear hI1
      rw [HN.out] at c2
      go_wp2_with (go_at_call 38; refine c2.mono ?_)
      first | rintro e w2 rfl _ b2 _ | rintro e w2 ⟨rfl, _, b2, _⟩
      clear c2
      go_wp2
      go_ret
      exact ⟨rfl, hbl.trans (b1.trans b2)⟩
    · obtain ⟨h1, hd⟩ := refAt_at hr
      have hd1 : 48 ≤ ((X[i + 1]'h1).toNat : Int) ∧ ((X[i + 1]'h1).toNat : Int) ≤ 57 := by simpa [digB] using hd
      obtain ⟨g, hg⟩ : ∃ g, g = (X[i + 1]'h1).toNat - 48 := ⟨_, rfl⟩
      have hg48 : (X[i + 1]'h1).toNat = g + 48 := by omega
      have hg10 : g < 10 := by omega
      have HS : Hid (acc ++ ((X.extract 0 i).data.toList ++ (G s Z len g ++ E (G s Z len) (X.extract (i + 2) X.size) 0)) = E (G s Z len) T 0) := by
        show _ ++ _ = _
        rw [← HE.out, E_step _ X i hr hn h1, ← hg]
      have hgz := grp_size s Z len g
      have hXs : (X.extract 0 i).size = i := by simp; omega
      have c1 := write_any w.heap.size w.heap.size acc (X.extract 0 i) wr hI (by omega) hBr
      have HXS := hide hXs
      clear hr hn cn HE hI hd hd1 hg hXs
      go_wp2_with (go_at_call 37; refine c1.mono ?_)
      first | rintro e w1 rfl hI1 b1 | rintro e w1 ⟨rfl, hI1, b1⟩
      clear c1
      have hb1 : Below w.heap.size w w1 := hbl.trans b1
      have hB1 : w.heap.size ≤ w1.heap.size := hb1.size
      clear hbl b1 hBr
      by_cases hm : 2 * g + 1 < len
      · have e0 : w1.cell? ⟨b, off + 2 * g, none⟩ = some (.int .i64 (Z (2 * g))) := by rw [hb1.cell (p := ⟨b, off + 2 * g, none⟩) hb]; exact hc.out (2 * g) (by omega)
        have e1 : w1.cell? ⟨b, off + (2 * g + 1), none⟩ = some (.int .i64 (Z (2 * g + 1))) := by rw [hb1.cell (p := ⟨b, off + (2 * g + 1), none⟩) hb]; exact hc.out (2 * g + 1) hm
        have hV := hv.out g hg10 hm
        by_cases h0 : 0 ≤ Z (2 * g)
        · obtain ⟨v1, v2⟩ := hV h0
          have hgr : grp s Z len g = s.extract (Z (2 * g)).toNat (Z (2 * g + 1)).toNat := by unfold grp grpOk; rw [if_pos (by simp [hm, h0])]
          obtain ⟨x, hx⟩ : ∃ x, x = Z (2 * g) := ⟨_, rfl⟩
          obtain ⟨y, hy⟩ : ∃ y, y = Z (2 * g + 1) := ⟨_, rfl⟩
          rw [← hx] at e0 h0 v1 hgr
          rw [← hy] at e1 v1 v2 hgr
          rw [hgr] at hgz
          have HG := hide hgr
          clear hgr hx hy hV
          have hmI : 2 * (g : Int) + 1 < (len : Int) := by omega
          have hmI0 : 2 * (g : Int) < (len : Int) := by omega
          have hmI1 : 0 ≤ 2 * (g : Int) := by omega
          have hmI2 : 0 ≤ 2 * (g : Int) + 1 := by omega
          have hy0 : 0 ≤ y := by omega
          have hwr : IntKind.i64.wrap (2 * (g : Int)) = 2 * (g : Int) := by rw [IntKind.wrap_i64]; omega
          have hwr2 : IntKind.i64.wrap (2 * (g : Int) + 1) = 2 * (g : Int) + 1 := by rw [IntKind.wrap_i64]; omega
          have hn0 : (2 * (g : Int)).toNat = 2 * g := by omega
          have hn1 : (2 * (g : Int) + 1).toNat = 2 * g + 1 := by omega
          have c2 := write_any w.heap.size w.heap.size (acc ++ (X.extract 0 i).data.toList) (s.extract x.toNat y.toNat) w1.drew hI1 (by rw [List.length_append]; have : (X.extract 0 i).data.toList.length = (X.extract 0 i).size := rfl; have := HXS.out; omega) hB1
          have HS2 : Hid (acc ++ (X.extract 0 i).data.toList ++ (s.extract x.toNat y.toNat).data.toList ++ E (G s Z len) (X.extract (i + 2) X.size) 0 = E (G s Z len) T 0) := by
            show _ ++ _ = _
            have h := HS.out
            have hG : G s Z len g = (s.extract x.toNat y.toNat).data.toList := by unfold G; rw [HG.out]
            rw [hG] at h
            rw [← h]; simp only [List.append_assoc]
          have hal2 : Hid ((acc ++ (X.extract 0 i).data.toList ++ (s.extract x.toNat y.toNat).data.toList).length + (X.extract (i + 2) X.size).size * 1048576 ≤ T.size * 1048576) := by
            show _ + _ ≤ _
            rw [List.length_append, List.length_append]
            have h2 : (X.extract 0 i).data.toList.length = (X.extract 0 i).size := rfl
            have h3 : (s.extract x.toNat y.toNat).data.toList.length = (s.extract x.toNat y.toNat).size := rfl
            have h4 := HXS.out
            have h5 : (X.extract (i + 2) X.size).size = X.size - (i + 2) := by simp
            omega
          have hsz2 : Hid ((X.extract (i + 2) X.size).size < X.size ∧ (X.extract (i + 2) X.size).size ≤ T.size) := by
            show _ ∧ _
            have h5 : (X.extract (i + 2) X.size).size = X.size - (i + 2) := by simp
            omega
          clear HS HG HXS hI1 hgz
          go_wp2
          go_region_with (go_at_call 37; refine c2.mono ?_; rintro e w2 ⟨rfl, hI2, b2⟩)
          all_goals
            go_wp2
            go_roundw
            case rel => exact ⟨_, _, rfl, hsz2.out.2, hI2, hb1.drew.trans b2, HS2, hal2.out⟩
            case measure => exact hsz2.out.1
        · obtain ⟨x, hx⟩ : ∃ x, x = Z (2 * g) := ⟨_, rfl⟩
          have hG : G s Z len g = [] := by unfold G grp grpOk; rw [if_neg (by simp [h0])]
          have HS2 : Hid (acc ++ (X.extract 0 i).data.toList ++ E (G s Z len) (X.extract (i + 2) X.size) 0 = E (G s Z len) T 0) := by
            show _ ++ _ = _
            have h := HS.out
            rw [hG] at h
            rw [← h]; simp only [List.append_assoc, List.nil_append]
          have hal2 : Hid ((acc ++ (X.extract 0 i).data.toList).length + (X.extract (i + 2) X.size).size * 1048576 ≤ T.size * 1048576) := by
            show _ + _ ≤ _
            rw [List.length_append]
            have h2 : (X.extract 0 i).data.toList.length = (X.extract 0 i).size := rfl
            have h4 := HXS.out
            have h5 : (X.extract (i + 2) X.size).size = X.size - (i + 2) := by simp
            omega
          have hsz2 : Hid ((X.extract (i + 2) X.size).size < X.size ∧ (X.extract (i + 2) X.size).size ≤ T.size) := by
            show _ ∧ _
            have h5 : (X.extract (i + 2) X.size).size = X.size - (i + 2) := by simp
            omega
          have HI := hide hI1
          rw [← hx] at e0 h0
          clear HS HXS hI1 hgz hG e1 hV hx
          go_wp2
          go_roundw
          case rel => exact ⟨_, _, rfl, hsz2.out.2, HI.out, hb1, HS2, hal2.out⟩
          case measure => exact hsz2.out.1
      · have hG : G s Z len g = [] := by unfold G grp grpOk; rw [if_neg (by simp [hm])]
        have HS2 : Hid (acc ++ (X.extract 0 i).data.toList ++ E (G s Z len) (X.extract (i + 2) X.size) 0 = E (G s Z len) T 0) := by
          show _ ++ _ = _
          have h := HS.out
          rw [hG] at h
          rw [← h]; simp only [List.append_assoc, List.nil_append]
        have hal2 : Hid ((acc ++ (X.extract 0 i).data.toList).length + (X.extract (i + 2) X.size).size * 1048576 ≤ T.size * 1048576) := by
          show _ + _ ≤ _
          rw [List.length_append]
          have h2 : (X.extract 0 i).data.toList.length = (X.extract 0 i).size := rfl
          have h4 := HXS.out
          have h5 : (X.extract (i + 2) X.size).size = X.size - (i + 2) := by simp
          omega
        have hsz2 : Hid ((X.extract (i + 2) X.size).size < X.size ∧ (X.extract (i + 2) X.size).size ≤ T.size) := by
          show _ ∧ _
          have h5 : (X.extract (i + 2) X.size).size = X.size - (i + 2) := by simp
          omega
        have HI := hide hI1
        clear HS HXS hI1 hgz hG
        go_wp2
        go_roundw
        case rel => exact ⟨_, _, rfl, hsz2.out.2, HI.out, hb1, HS2, hal2.out⟩
        case measure => exact hsz2.out.1

set_option maxHeartbeats 4000000 in
theorem expand_none (T s : ByteArray) (a : Option Addr) (cap : Nat) (Z : Nat → Int) (w : World) (hT : T.size ≤ 1048576) (_hs : s.size ≤ 1048576) :
    Calls Try.prog 31 #[.string T, .string s, .slice a 0 cap] w fun e w' => e = .returned (.string ⟨(E (G s Z 0) T 0).toArray⟩) ∧ Below w.heap.size w w' := by
  go_enter Try.func31, Try.ntmps31
  go_wp2
  go_loopw [0, 8, 9] (fun t _ _ wr => ∃ (X : ByteArray) (acc : List UInt8), t = .string X ∧ X.size ≤ T.size ∧ Lib.IsBuilderF 45 5 w.heap.size w.heap.size (Lib.byteCells acc) wr ∧ Below w.heap.size w wr ∧ Hid (acc ++ E (G s Z 0) X 0 = E (G s Z 0) T 0) ∧ acc.length + X.size * 1048576 ≤ T.size * 1048576) (fun t _ _ _ => strLen t)
  case atStart => exact ⟨T, [], rfl, Nat.le_refl _, Lib.IsBuilderF.of (Lib.fresh_isBuilder 45 5 w), (Below.refl _ w).alloc (Nat.le_refl _) _, by show [] ++ _ = _; rfl, by simp⟩
  case round =>
    obtain ⟨X, acc, rfl, hXT, hI, hbl, HE, hal⟩ := hrel
    have hBr : w.heap.size ≤ wr.heap.size := hbl.size
    have cn := next_any X wr (by omega)
    go_wp2_with (go_at_call 36; refine cn.mono ?_)
    rintro e _ ⟨hans, rfl⟩
    rcases hans with ⟨rfl, hn⟩ | ⟨i, rfl, hr, hn⟩
    · have HN : Hid (acc ++ X.data.toList = E (G s Z 0) T 0) := by
        show acc ++ _ = _
        rw [← HE.out, E_none _ X hn]
      clear hn cn HE
      have c1 := write_any w.heap.size w.heap.size acc X wr hI (by omega) hBr
      clear hI
      go_wp2_with (go_at_call 37; refine c1.mono ?_)
      first | rintro e w1 rfl hI1 b1 | rintro e w1 ⟨rfl, hI1, b1⟩
      clear c1
      have c2 := Try.Builder_String_any_k w.heap.size w.heap.size (acc ++ X.data.toList) w1 hI1 (Nat.le_trans hBr b1.size)
      clear hI1
      rw [HN.out] at c2
      go_wp2_with (go_at_call 38; refine c2.mono ?_)
      first | rintro e w2 rfl _ b2 _ | rintro e w2 ⟨rfl, _, b2, _⟩
      clear c2
      go_wp2
      go_ret
      exact ⟨rfl, hbl.trans (b1.trans b2)⟩
    · obtain ⟨h1, hd⟩ := refAt_at hr
      have hd1 : 48 ≤ ((X[i + 1]'h1).toNat : Int) ∧ ((X[i + 1]'h1).toNat : Int) ≤ 57 := by simpa [digB] using hd
      obtain ⟨g, hg⟩ : ∃ g, g = (X[i + 1]'h1).toNat - 48 := ⟨_, rfl⟩
      have hg48 : (X[i + 1]'h1).toNat = g + 48 := by omega
      have hg10 : g < 10 := by omega
      have HS : Hid (acc ++ ((X.extract 0 i).data.toList ++ (G s Z 0 g ++ E (G s Z 0) (X.extract (i + 2) X.size) 0)) = E (G s Z 0) T 0) := by
        show _ ++ _ = _
        rw [← HE.out, E_step _ X i hr hn h1, ← hg]
      have hgz := grp_size s Z 0 g
      have hXs : (X.extract 0 i).size = i := by simp; omega
      have c1 := write_any w.heap.size w.heap.size acc (X.extract 0 i) wr hI (by omega) hBr
      have HXS := hide hXs
      clear hr hn cn HE hI hd hd1 hg hXs
      go_wp2_with (go_at_call 37; refine c1.mono ?_)
      first | rintro e w1 rfl hI1 b1 | rintro e w1 ⟨rfl, hI1, b1⟩
      clear c1
      have hb1 : Below w.heap.size w w1 := hbl.trans b1
      have hB1 : w.heap.size ≤ w1.heap.size := hb1.size
      clear hbl b1 hBr
      have hG : G s Z 0 g = [] := by unfold G grp grpOk; rw [if_neg (by simp)]
      have HS2 : Hid (acc ++ (X.extract 0 i).data.toList ++ E (G s Z 0) (X.extract (i + 2) X.size) 0 = E (G s Z 0) T 0) := by
        show _ ++ _ = _
        have h := HS.out
        rw [hG] at h
        rw [← h]; simp only [List.append_assoc, List.nil_append]
      have hal2 : Hid ((acc ++ (X.extract 0 i).data.toList).length + (X.extract (i + 2) X.size).size * 1048576 ≤ T.size * 1048576) := by
        show _ + _ ≤ _
        rw [List.length_append]
        have h2 : (X.extract 0 i).data.toList.length = (X.extract 0 i).size := rfl
        have h4 := HXS.out
        have h5 : (X.extract (i + 2) X.size).size = X.size - (i + 2) := by simp
        omega
      have hsz2 : Hid ((X.extract (i + 2) X.size).size < X.size ∧ (X.extract (i + 2) X.size).size ≤ T.size) := by
        show _ ∧ _
        have h5 : (X.extract (i + 2) X.size).size = X.size - (i + 2) := by simp
        omega
      have HI := hide hI1
      clear HS HXS hI1 hgz hG
      go_wp2
      go_roundw
      case rel => exact ⟨_, _, rfl, hsz2.out.2, HI.out, hb1, HS2, hal2.out⟩
      case measure => exact hsz2.out.1

theorem expand_any (T s : ByteArray) (a : Option Addr) (len cap : Nat) (Z : Nat → Int) (w : World) (hT : T.size ≤ 1048576) (hs : s.size ≤ 1048576) (hv : Valid s.size Z len) (h : IsInts w a len Z) :
    Calls Try.prog 31 #[.string T, .string s, .slice a len cap] w fun e w' => e = .returned (.string ⟨(E (G s Z len) T 0).toArray⟩) ∧ Below w.heap.size w w' := by
  by_cases h0 : len = 0
  · subst h0; exact expand_none T s a cap Z w hT hs
  · rcases h with h | ⟨b, off, rfl, hc⟩
    · exact absurd h h0
    · have hb : b < w.heap.size := by
        have h1 := hc 0 (by omega)
        rcases Nat.lt_or_ge b w.heap.size with h' | h'
        · exact h'
        · simp [World.cell?, Array.getElem?_eq_none h'] at h1
      exact expand_row T s b off len cap Z w hT hs hv hb hc
end Go.Proofs.Qxb6601306a
