import Derived.Test.Qxb6601293aReach
import Derived.Test.Qxb6601293aLawA
namespace Go.Proofs.Qxb6601293a
open Go.RowKit

theorem cell_drew {w : World} {p : Addr} {v : Value} (h : w.cell? p = some v) : w.drew.cell? p = some v := h
theorem cell_drewN {w : World} {p : Addr} {v : Value} (n : Nat) (h : w.cell? p = some v) : (w.drewN n).cell? p = some v := h
theorem better_one (mx : Bool) (x y : Nat) (h1 : (FloatKind.f64.format.order x x != some .eq) = false) (h2 : (FloatKind.f64.format.order y y != some .eq) = false) (hne : (FloatKind.f64.format.order x y == some .eq) = false) :
    better mx y x = !better mx x y := by
  rw [bne_eq_false_iff_eq] at h1 h2
  obtain ⟨o, ho⟩ := order_some _ _ h1 h2
  have ho' : ord x y = some o := ho
  have hne' : ¬ ord x y = some .eq := by
    intro e
    have : (ord x y == some .eq) = false := hne
    rw [e] at this; simp at this
  cases hb : better mx x y
  · simp only [Bool.not_false]
    rw [Bool.eq_false_iff, ne_eq, better_def] at hb
    rw [better_def]
    have hg := ord_gt x y
    have hg' := ord_gt y x
    cases mx <;> simp at hb ⊢ <;> cases o <;> simp_all
  · simp only [Bool.not_true]
    exact better_asym _ _ _ hb
theorem better_eq (mx : Bool) (x y : Nat) (he : (FloatKind.f64.format.order x y == some .eq) = true) : better mx y x = false := by
  have he' : ord x y = some .eq := by
    have : (ord x y == some .eq) = true := he
    simpa using this
  rw [Bool.eq_false_iff]; intro h
  rw [better_def] at h
  cases mx
  · simp at h; rw [← ord_gt, he'] at h; simp at h
  · simp at h; rw [he'] at h; simp at h

theorem below_alloc {w w2 : World} (b : Below w.heap.size w w2) (o : Obj) : Below w.heap.size w (w2.alloc o) := b.alloc b.size o
theorem below_drew {B : Nat} {w w2 : World} (b : Below B w w2) : Below B w w2.drew := b.drew
theorem below_drewN {B : Nat} {w w2 : World} (b : Below B w w2) (n : Nat) : Below B w (w2.drewN n) := b.trans ⟨rfl, rfl, rfl, Nat.le_refl _, fun _ _ => rfl⟩

set_option maxHeartbeats 4000000 in
theorem main6 (typ name : ByteArray) (g : Option Addr) (a : Option Addr) (len cap x : Nat) (w : World) (ht : typ.size ≤ maxLen) (hn : name.size ≤ maxLen) (hl : len ≤ maxLen) (hs : IsStrs w a len)
    (hg : g = none ∨ ∃ p f, g = some p ∧ w.cell? p = some (.float .f64 f)) :
    Calls Try.prog 6 #[.string typ, .pointer g, .string name, .slice a len cap, .float .f64 x] w fun e w' => e = .returned (.bool true) ∧ Below w.heap.size w w' := by
  have c1 := zz22_any typ name (.pointer g) (.float .f64 x) a len cap w ht hn hl hs
  have c2 := big_any typ name a len cap w ht hn hl hs
  rcases hg with rfl | ⟨p, f, rfl, hp⟩
  · go_enter Try.func6, Try.ntmps6
    go_wp2_with (go_at_call 22; refine c1.mono ?_)
    rintro e _ ⟨⟨r, rfl⟩, rfl⟩
    cases r
    · go_wp2
      go_ret
      exact ⟨rfl, Below.refl _ _⟩
    · go_wp2_with (go_at_call 16; refine c2.mono ?_)
      rintro e _ ⟨⟨r, rfl, hr⟩, rfl⟩
      cases r
      all_goals
        go_wp2
        go_ret
        exact ⟨rfl, Below.refl _ _⟩
  · cases h1 : (FloatKind.f64.format.order x x != some .eq)
    · cases h2 : (FloatKind.f64.format.order f f != some .eq)
      · cases he : (FloatKind.f64.format.order x f == some .eq)
        · have hb := better_one (isMax typ) x f h1 h2 he
          go_enter Try.func6, Try.ntmps6
          go_wp2_with (go_at_call 22; refine c1.mono ?_)
          rintro e _ ⟨⟨r, rfl⟩, rfl⟩
          cases r
          · go_wp2
            go_ret
            exact ⟨rfl, Below.refl _ _⟩
          · go_wp2_with (go_at_call 16; refine c2.mono ?_)
            rintro e _ ⟨⟨r, rfl, hr⟩, rfl⟩
            cases r
            · have c3 := copy_any a len cap (w.alloc (.cells #[.float .f64 f] 34)) (hr rfl) (hs.alloc _)
              clear c1 c2 hr
              go_wp2_with (first | (go_at_call 17; refine (goal_any _ _ _ hp).mono ?_; rintro e _ ⟨rfl, rfl⟩) | (go_at_call 18; refine c3.mono ?_))
              rintro e w2 ⟨⟨a', n', c', rfl⟩, b2⟩
              have hp2 : w2.cell? ⟨w.heap.size, 0, none⟩ = some (.float .f64 f) := by
                rw [b2.cell (p := ⟨w.heap.size, 0, none⟩) (by simp)]; simp
              have B2 := hide (((Below.refl _ w).alloc (Nat.le_refl _) (.cells #[.float .f64 f] 34)).trans (b2.mono (by simp)))
              clear c3 b2 hs
              go_wp2_with (go_at_call 19; refine (mk_any _ _ _ _ _ _ _).mono ?_; rintro e _ ⟨rfl, rfl⟩)
              go_region_with (first | (go_at_call 20; refine (better_any _ _ _ _ _ _ _ _ _).mono ?_; rintro e _ ⟨rfl, rfl⟩) | (go_at_call 23; refine (reached_ne _ _ _ _ _ _ _ _ f _ (by repeat (first | exact hp2 | refine cell_drew ?_ | refine cell_drewN _ ?_ | refine cell_alloc ?_ _)) he).mono ?_; rintro e _ ⟨rfl, k, rfl⟩))
              all_goals (go_wp2; go_ret; exact ⟨rfl, by repeat (first | exact B2.out | refine below_drew ?_ | refine below_drewN ?_ _ | refine below_alloc ?_ _)⟩)
            · go_wp2
              go_ret
              exact ⟨rfl, Below.refl _ _⟩
        · have hb := better_eq (isMax typ) x f he
          go_enter Try.func6, Try.ntmps6
          go_wp2_with (go_at_call 22; refine c1.mono ?_)
          rintro e _ ⟨⟨r, rfl⟩, rfl⟩
          cases r
          · go_wp2
            go_ret
            exact ⟨rfl, Below.refl _ _⟩
          · go_wp2_with (go_at_call 16; refine c2.mono ?_)
            rintro e _ ⟨⟨r, rfl, hr⟩, rfl⟩
            cases r
            · have c3 := copy_any a len cap (w.alloc (.cells #[.float .f64 f] 34)) (hr rfl) (hs.alloc _)
              clear c1 c2 hr
              go_wp2_with (first | (go_at_call 17; refine (goal_any _ _ _ hp).mono ?_; rintro e _ ⟨rfl, rfl⟩) | (go_at_call 18; refine c3.mono ?_))
              rintro e w2 ⟨⟨a', n', c', rfl⟩, b2⟩
              have hp2 : w2.cell? ⟨w.heap.size, 0, none⟩ = some (.float .f64 f) := by
                rw [b2.cell (p := ⟨w.heap.size, 0, none⟩) (by simp)]; simp
              have B2 := hide (((Below.refl _ w).alloc (Nat.le_refl _) (.cells #[.float .f64 f] 34)).trans (b2.mono (by simp)))
              clear c3 b2 hs
              go_wp2_with (go_at_call 19; refine (mk_any _ _ _ _ _ _ _).mono ?_; rintro e _ ⟨rfl, rfl⟩)
              go_region_with (first | (go_at_call 20; refine (better_any _ _ _ _ _ _ _ _ _).mono ?_; rintro e _ ⟨rfl, rfl⟩) | (go_at_call 23; refine (reached_eq _ _ _ _ _ _ _ _ f _ (by repeat (first | exact hp2 | refine cell_drew ?_ | refine cell_drewN _ ?_ | refine cell_alloc ?_ _)) he).mono ?_; rintro e _ ⟨rfl, k, rfl⟩))
              all_goals (go_wp2; go_ret; exact ⟨rfl, by repeat (first | exact B2.out | refine below_drew ?_ | refine below_drewN ?_ _ | refine below_alloc ?_ _)⟩)
            · go_wp2
              go_ret
              exact ⟨rfl, Below.refl _ _⟩
      · go_enter Try.func6, Try.ntmps6
        go_wp2_with (go_at_call 22; refine c1.mono ?_)
        rintro e _ ⟨⟨r, rfl⟩, rfl⟩
        cases r
        · go_wp2
          go_ret
          exact ⟨rfl, Below.refl _ _⟩
        · go_wp2_with (go_at_call 16; refine c2.mono ?_)
          rintro e _ ⟨⟨r, rfl, hr⟩, rfl⟩
          cases r
          · have c3 := copy_any a len cap (w.alloc (.cells #[.float .f64 f] 34)) (hr rfl) (hs.alloc _)
            clear c1 c2 hr
            go_wp2_with (first | (go_at_call 17; refine (goal_any _ _ _ hp).mono ?_; rintro e _ ⟨rfl, rfl⟩) | (go_at_call 18; refine c3.mono ?_))
            rintro e w2 ⟨⟨a', n', c', rfl⟩, b2⟩
            have hp2 : w2.cell? ⟨w.heap.size, 0, none⟩ = some (.float .f64 f) := by
              rw [b2.cell (p := ⟨w.heap.size, 0, none⟩) (by simp)]; simp
            have B2 := hide (((Below.refl _ w).alloc (Nat.le_refl _) (.cells #[.float .f64 f] 34)).trans (b2.mono (by simp)))
            clear c3 b2 hs
            go_wp2
            go_ret
            exact ⟨rfl, B2.out⟩
          · go_wp2
            go_ret
            exact ⟨rfl, Below.refl _ _⟩
    · go_enter Try.func6, Try.ntmps6
      go_wp2_with (go_at_call 22; refine c1.mono ?_)
      rintro e _ ⟨⟨r, rfl⟩, rfl⟩
      cases r
      · go_wp2
        go_ret
        exact ⟨rfl, Below.refl _ _⟩
      · go_wp2_with (go_at_call 16; refine c2.mono ?_)
        rintro e _ ⟨⟨r, rfl, hr⟩, rfl⟩
        cases r
        · have c3 := copy_any a len cap (w.alloc (.cells #[.float .f64 f] 34)) (hr rfl) (hs.alloc _)
          clear c1 c2 hr
          go_wp2_with (first | (go_at_call 17; refine (goal_any _ _ _ hp).mono ?_; rintro e _ ⟨rfl, rfl⟩) | (go_at_call 18; refine c3.mono ?_))
          rintro e w2 ⟨⟨a', n', c', rfl⟩, b2⟩
          have hp2 : w2.cell? ⟨w.heap.size, 0, none⟩ = some (.float .f64 f) := by
            rw [b2.cell (p := ⟨w.heap.size, 0, none⟩) (by simp)]; simp
          have B2 := hide (((Below.refl _ w).alloc (Nat.le_refl _) (.cells #[.float .f64 f] 34)).trans (b2.mono (by simp)))
          clear c3 b2 hs
          go_wp2
          go_ret
          exact ⟨rfl, B2.out⟩
        · go_wp2
          go_ret
          exact ⟨rfl, Below.refl _ _⟩
end Go.Proofs.Qxb6601293a
