import Derived.Test.Qxb6601306aExp3
import Derived.Lib.AppendStr
import Derived.Lib.FrozenHead
import Derived.Laws.IdiomStrings
import Derived.Laws.BytesArg
namespace Go.Proofs.Qxb6601306a
open Go.RowKit

def G (s : ByteArray) (Z : Nat → Int) (len g : Nat) : List UInt8 := (grp s Z len g).data.toList
theorem info5 : (Try.prog.info? 5).map (fun i => (i.zero, i.size, i.bytes)) = some (some (.int .u8 0), 1, 1) := by kernel_rfl
theorem IsInts.below {w w' : World} {a : Option Addr} {len : Nat} {Z : Nat → Int} (h : IsInts w a len Z) (hb : Below w.heap.size w w') : IsInts w' a len Z := by
  rcases h with h | ⟨b, off, rfl, hc⟩
  · exact .inl h
  · refine .inr ⟨b, off, rfl, fun i hi => ?_⟩
    have h1 := hc i hi
    have hlt : b < w.heap.size := by
      rcases Nat.lt_or_ge b w.heap.size with h' | h'
      · exact h'
      · simp [World.cell?, Array.getElem?_eq_none h'] at h1
    rw [hb.cell (p := ⟨b, off + i, none⟩) hlt]; exact h1
theorem conv_own {w : World} {B : Nat} {v : Value} {acc : List UInt8} (h : w.ownsRow B 5 1 v acc.length (Lib.byteCells acc)) :
    (convert 40 9 v).run Try.prog w = .ok (.string ⟨acc.toArray⟩) w := by
  rcases h.2 with ⟨rfl, hz⟩ | ⟨g, cap, cur, rfl, r⟩
  · have : acc = [] := List.eq_nil_of_length_eq_zero hz
    subst this
    exact run_convert_bytes_nil w 40 5 Try.underlying40 Try.underlying5 0 0 9 Try.underlying9
  · refine run_convert_bytes_back w 40 9 5 ⟨g, 0, none⟩ cap acc Try.underlying40 Try.underlying5 Try.underlying9 ?_
    intro j hj
    exact h.cells (g := g) rfl j _ (by simp [Lib.byteCells, hj])
theorem Drew.own {w w' : World} (h : Drew w w') {B e n m : Nat} {v : Value} {xs : List Value} (ho : w.ownsRow B e m v n xs) : w'.ownsRow B e m v n xs := by
  obtain ⟨k, rfl⟩ := h; exact ho
theorem dig_sub (c : UInt8) (h : digB (c.toNat : Int) = true) : ((c.toNat : Int) - 48 = ((c.toNat - 48 : Nat) : Int)) ∧ c.toNat - 48 < 10 := by
  have : 48 ≤ (c.toNat : Int) ∧ (c.toNat : Int) ≤ 57 := by simpa [digB] using h
  omega

set_option maxHeartbeats 2000000 in
theorem model_any (T s : ByteArray) (a : Option Addr) (len cap : Nat) (Z : Nat → Int) (w : World) (hT : T.size ≤ 1048576) (hs : s.size ≤ 1048576) (hl : len ≤ 1048576) (hv : Hid (Valid s.size Z len)) (hi : Hid (IsInts w a len Z)) :
    Calls Try.prog 25 #[.string T, .string s, .slice a len cap] w fun e w' => e = .returned (.string ⟨(E (G s Z len) T 0).toArray⟩) ∧ Below w.heap.size w w' := by
  obtain ⟨i0, hi0, hz0, hz1, hz2⟩ := info_parts info5
  go_enter Try.func25, Try.ntmps25
  go_wp2_with (at_make; refine wpList_make_own _ rfl _ _ 40 rfl w.heap.size 5 i0 (.int .u8 0) 1 Try.underlying40 hi0 hz0 hz1 .i64 .i64 _ T.size rfl rfl rfl (by rw [hz2]; omega) (by unfold maxLen; omega) (Nat.le_refl _) ?_)
  intro w0 ho0 hg0
  have hb0 : Below w.heap.size w w0 := (Below.refl _ w).grown hg0 (Nat.le_refl _) (fun k hk => by cases hk)
  go_wp2
  go_loopw [7, 8, 9, 10, 11] (fun v i _ _ _ wr => ∃ (k : Nat) (acc : List UInt8), k ≤ T.size ∧ i = .int .i64 k ∧ wr.ownsRow w.heap.size 5 1 v acc.length (Lib.byteCells acc) ∧ Below w.heap.size w wr ∧ Hid (acc ++ E (G s Z len) T k = E (G s Z len) T 0) ∧ acc.length ≤ k * 1048576) (fun _ i _ _ _ _ => T.size - (intOf i).toNat)
  case atStart => exact ⟨0, [], by omega, rfl, ho0, hb0, by show [] ++ _ = _; rfl, by simp⟩
  case round =>
    clear ho0 hg0 hb0
    obtain ⟨k, acc, hk, rfl, hown, hbl, HE, hal⟩ := hrel
    by_cases hlt : k < T.size
    · cases hc : (((T[k]'hlt).toNat : Int) == 36)
      · have HN : Hid (acc ++ [T[k]'hlt] ++ E (G s Z len) T (k + 1) = E (G s Z len) T 0) := by
          show _ ++ _ ++ _ = _
          rw [← HE.out, E_no _ T k hlt (by rintro ⟨h1, h2⟩; unfold isRef at h2; rw [hc] at h2; simp at h2)]; simp
        clear HE
        go_wp2_with (first | (go_at_call 27; refine (isDigit_any _ _).mono ?_; rintro e _ ⟨rfl, rfl⟩) | (at_builtin; refine wpList_append_own _ rfl _ _ 40 rfl w.heap.size 5 i0 (.int .u8 0) 1 1 Try.underlying40 hi0 hz0 hz1 hz2 rfl (by decide) _ _ _ rfl (hown.alloc _) ⟨wr.heap.size, 0, none⟩ 1 1 [.int .u8 ((T[k]'hlt).toNat : Int)] rfl rfl ?a1 ?a2 ?a3 ?a4 ?a5 ?_))
        try
          case a1 =>
            intro q u hq
            match q, hq with
            | 0, hq => simp at hq; subst hq; simp [Addr.add]
        case a2 => first | rfl | (intro u hu; simp at hu; subst hu; rfl)
        case a3 => unfold maxLen; omega
        case a4 => omega
        case a5 => have := hbl.size; simp; omega
        intro v' w1 hown' hgrow _
        have hb1 : Below w.heap.size w w1 := (hbl.alloc hbl.size _).grown hgrow (by have := hbl.size; simp; omega) (fun q hq => (hown.lt q hq).1)
        have HO : Hid (w1.ownsRow w.heap.size 5 1 v' (acc ++ [T[k]'hlt]).length (Lib.byteCells (acc ++ [T[k]'hlt]))) := by
          show w1.ownsRow _ _ _ _ _ _
          rw [Lib.byteCells_append, List.length_append]; exact hown'
        clear hown' hgrow hown hbl
        go_wp2
        go_roundw
        case rel => exact ⟨k + 1, acc ++ [T[k]'hlt], by omega, by go_num, HO.out, hb1, HN, by simp; omega⟩
        case measure => simp [intOf]; omega
      · by_cases h1 : k + 1 < T.size
        · cases hd : digB ((T[k + 1]'h1).toNat : Int)
          · have HN : Hid (acc ++ [T[k]'hlt] ++ E (G s Z len) T (k + 1) = E (G s Z len) T 0) := by
              show _ ++ _ ++ _ = _
              rw [← HE.out, E_no _ T k hlt (by rintro ⟨_, h2⟩; unfold isRef at h2; rw [hc, hd] at h2; simp at h2)]; simp
            clear HE
            go_wp2_with (first | (go_at_call 27; refine (isDigit_any _ _).mono ?_; rintro e _ ⟨rfl, rfl⟩) | (at_builtin; refine wpList_append_own _ rfl _ _ 40 rfl w.heap.size 5 i0 (.int .u8 0) 1 1 Try.underlying40 hi0 hz0 hz1 hz2 rfl (by decide) _ _ _ rfl (hown.alloc _) ⟨wr.heap.size, 0, none⟩ 1 1 [.int .u8 ((T[k]'hlt).toNat : Int)] rfl rfl ?b1 ?b2 ?b3 ?b4 ?b5 ?_))
            try
              case b1 =>
                intro q u hq
                match q, hq with
                | 0, hq => simp at hq; subst hq; simp [Addr.add]
            case b2 => first | rfl | (intro u hu; simp at hu; subst hu; rfl)
            case b3 => unfold maxLen; omega
            case b4 => omega
            case b5 => have := hbl.size; simp; omega
            intro v' w1 hown' hgrow _
            have hb1 : Below w.heap.size w w1 := (hbl.alloc hbl.size _).grown hgrow (by have := hbl.size; simp; omega) (fun q hq => (hown.lt q hq).1)
            have HO : Hid (w1.ownsRow w.heap.size 5 1 v' (acc ++ [T[k]'hlt]).length (Lib.byteCells (acc ++ [T[k]'hlt]))) := by
              show w1.ownsRow _ _ _ _ _ _
              rw [Lib.byteCells_append, List.length_append]; exact hown'
            clear hown' hgrow hown hbl
            go_wp2
            go_roundw
            case rel => exact ⟨k + 1, acc ++ [T[k]'hlt], by omega, by go_num, HO.out, hb1, HN, by simp; omega⟩
            case measure => simp [intOf]; omega
          · have HY := hide (E_yes (G s Z len) T k h1 (by unfold isRef; rw [hc, hd]; rfl))
            obtain ⟨hsub, hg10⟩ := dig_sub (T[k + 1]'h1) hd
            have hg48 : 48 ≤ ((T[k + 1]'h1).toNat : Int) ∧ ((T[k + 1]'h1).toNat : Int) ≤ 57 := by simpa [digB] using hd
            obtain ⟨hd1, hd2⟩ := hg48
            obtain ⟨g, hg⟩ : ∃ g, g = (T[k + 1]'h1).toNat - 48 := ⟨_, rfl⟩
            rw [← hg] at hsub hg10
            have HY' : Hid (E (G s Z len) T k = (grp s Z len g).data.toList ++ E (G s Z len) T (k + 2)) := by
              show E _ _ _ = _
              rw [HY.out, ← hg]; rfl
            have hgz := grp_size s Z len g
            have cg := group_any s a len cap g _ hsub Z wr hg10 hl hv (hi.out.below hbl)
            have HE2 : Hid (acc ++ (grp s Z len g).data.toList ++ E (G s Z len) T (k + 2) = E (G s Z len) T 0) := by
              show _ ++ _ ++ _ = _
              rw [← HE.out, HY'.out, List.append_assoc]
            have hal2 : acc.length ≤ (k + 2) * 1048576 := Nat.le_trans hal (Nat.mul_le_mul_right 1048576 (Nat.le_add_right k 2))
            clear HY HY' HE hsub hg
            cases hok : grpOk Z len g
            · have HE3 : Hid (acc ++ E (G s Z len) T (k + 2) = E (G s Z len) T 0) := by
                show acc ++ _ = _
                have h := HE2.out
                have : grp s Z len g = ⟨#[]⟩ := by unfold grp; rw [hok]; rfl
                rw [this] at h; simpa using h
              rw [hok] at cg
              clear HE2
              go_wp2_with (first | (go_at_call 27; refine (isDigit_any _ _).mono ?_; rintro e _ ⟨rfl, rfl⟩) | (go_at_call 32; refine cg.mono ?_))
              rintro e w1 ⟨rfl, d1⟩
              have HO := hide (d1.own hown)
              have hb1 : Below w.heap.size w w1 := hbl.trans (d1.below _)
              clear cg hown hbl
              go_wp2
              go_roundw
              case rel => exact ⟨k + 2, acc, by omega, by go_num, HO.out, hb1, HE3, hal2⟩
              case measure => simp [intOf]; omega
            · rw [hok] at cg
              obtain ⟨t, ht⟩ : ∃ t, t = grp s Z len g := ⟨_, rfl⟩
              rw [← ht] at cg hgz HE2
              clear ht
              go_wp2_with (first | (go_at_call 27; refine (isDigit_any _ _).mono ?_; rintro e _ ⟨rfl, rfl⟩) | (go_at_call 32; refine cg.mono ?_))
              rintro e w1 ⟨rfl, d1⟩
              have ho1 := d1.own hown
              have hb1 : Below w.heap.size w w1 := hbl.trans (d1.below _)
              clear cg hown hbl
              go_wp2_with (at_builtin; refine Lib.wpList_append_own_string _ rfl _ _ 40 9 rfl w.heap.size 5 i0 Try.underlying40 Try.underlying9 hi0 hz0 hz1 hz2 _ _ _ rfl ho1 t rfl ?s3 ?s4 ?s5 ?_)
              case s3 => unfold maxLen; omega
              case s4 => omega
              case s5 => exact hb1.size
              intro v' w2 hown' hgrow _
              have hb2 : Below w.heap.size w w2 := hb1.grown hgrow hb1.size (fun q hq => (ho1.lt q hq).1)
              have HO : Hid (w2.ownsRow w.heap.size 5 1 v' (acc ++ t.data.toList).length (Lib.byteCells (acc ++ t.data.toList))) := by
                show w2.ownsRow _ _ _ _ _ _
                rw [Lib.byteCells_append, List.length_append]; exact hown'
              clear hown' hgrow ho1 hb1
              go_wp2
              go_roundw
              case rel => exact ⟨k + 2, acc ++ t.data.toList, by omega, by go_num, HO.out, hb2, HE2, by rw [List.length_append]; have : t.data.toList.length = t.size := rfl; omega⟩
              case measure => simp [intOf]; omega
        · have HN : Hid (acc ++ [T[k]'hlt] ++ E (G s Z len) T (k + 1) = E (G s Z len) T 0) := by
            show _ ++ _ ++ _ = _
            rw [← HE.out, E_no _ T k hlt (by rintro ⟨h2, _⟩; omega)]; simp
          clear HE
          go_wp2_with (first | (go_at_call 27; refine (isDigit_any _ _).mono ?_; rintro e _ ⟨rfl, rfl⟩) | (at_builtin; refine wpList_append_own _ rfl _ _ 40 rfl w.heap.size 5 i0 (.int .u8 0) 1 1 Try.underlying40 hi0 hz0 hz1 hz2 rfl (by decide) _ _ _ rfl (hown.alloc _) ⟨wr.heap.size, 0, none⟩ 1 1 [.int .u8 ((T[k]'hlt).toNat : Int)] rfl rfl ?x1 ?x2 ?x3 ?x4 ?x5 ?_))
          try
            case x1 =>
              intro q u hq
              match q, hq with
              | 0, hq => simp at hq; subst hq; simp [Addr.add]
          case x2 => first | rfl | (intro u hu; simp at hu; subst hu; rfl)
          case x3 => unfold maxLen; omega
          case x4 => omega
          case x5 => have := hbl.size; simp; omega
          intro v' w1 hown' hgrow _
          have hb1 : Below w.heap.size w w1 := (hbl.alloc hbl.size _).grown hgrow (by have := hbl.size; simp; omega) (fun q hq => (hown.lt q hq).1)
          have HO : Hid (w1.ownsRow w.heap.size 5 1 v' (acc ++ [T[k]'hlt]).length (Lib.byteCells (acc ++ [T[k]'hlt]))) := by
            show w1.ownsRow _ _ _ _ _ _
            rw [Lib.byteCells_append, List.length_append]; exact hown'
          clear hown' hgrow hown hbl
          go_wp2
          go_roundw
          case rel => exact ⟨k + 1, acc ++ [T[k]'hlt], by omega, by go_num, HO.out, hb1, HN, by simp; omega⟩
          case measure => simp [intOf]; omega
    · have hcv := conv_own hown
      have HE' : Hid (acc = E (G s Z len) T 0) := by
        show acc = _
        rw [← HE.out, E_end _ _ _ hlt, List.append_nil]
      clear hown HE
      go_wp2
      go_ret
      exact ⟨by rw [← HE'.out]; rfl, hbl⟩
end Go.Proofs.Qxb6601306a
