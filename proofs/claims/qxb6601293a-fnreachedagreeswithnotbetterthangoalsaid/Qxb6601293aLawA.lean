import Derived.Test.Qxb6601293aCopy
import Derived.Test.Qxb6601293aOrd
namespace Go.Proofs.Qxb6601293a
open Go.RowKit

def ord (x y : Nat) : Option Ordering := FloatKind.f64.format.order x y
theorem ord_swap (x y : Nat) : ord y x = (ord x y).map Ordering.swap := order_swap _ _
theorem ord_gt (x y : Nat) : ord x y = some .gt ↔ ord y x = some .lt := by
  rw [ord_swap x y]
  cases h : ord x y with
  | none => simp
  | some o => cases o <;> simp [Ordering.swap]
theorem better_def (mx : Bool) (x y : Nat) : better mx x y = true ↔ (if mx then ord y x = some .lt else ord x y = some .lt) := by
  unfold better
  cases mx
  · show (ord x y == some .lt) = true ↔ _
    simp
  · show (ord x y == some .gt) = true ↔ _
    rw [beq_iff_eq, ord_gt]; simp
theorem better_irr (mx : Bool) (x : Nat) : better mx x x = false := by
  rw [Bool.eq_false_iff]; intro h
  rw [better_def] at h
  have hs : ord x x = some .eq ∨ ord x x = none := order_self _
  cases mx <;> simp at h <;> rcases hs with e | e <;> rw [e] at h <;> simp at h
theorem better_asym (mx : Bool) (x y : Nat) (h : better mx x y = true) : better mx y x = false := by
  rw [Bool.eq_false_iff]; intro h'
  rw [better_def] at h h'
  cases mx
  · simp at h h'; rw [← ord_gt] at h'; rw [h] at h'; simp at h'
  · simp at h h'; rw [← ord_gt] at h'; rw [h] at h'; simp at h'
theorem better_trans (mx : Bool) (x y z : Nat) (h : better mx x y = true) (h' : better mx y z = true) : better mx x z = true := by
  rw [better_def] at h h' ⊢
  cases mx
  · simp at h h' ⊢; exact order_lt_trans _ _ _ h h'
  · simp at h h' ⊢; exact order_lt_trans _ _ _ h' h
theorem better_total (mx : Bool) (x y : Nat) (h : better mx x y = false) (h' : better mx y x = false) (h1 : (FloatKind.f64.format.order x x == some .eq) = true) (h2 : (FloatKind.f64.format.order y y == some .eq) = true) :
    (FloatKind.f64.format.order x y != some .eq) = false := by
  rw [beq_iff_eq] at h1 h2
  obtain ⟨o, ho⟩ := order_some _ _ h1 h2
  have ho' : ord x y = some o := ho
  rw [Bool.eq_false_iff, ne_eq, better_def] at h h'
  show (ord x y != some .eq) = false
  rw [ho']
  have hg := ord_gt x y
  cases mx <;> simp at h h' <;> cases o <;> simp_all

theorem alloc7 {w w2 : World} (b : Below w.heap.size w w2) (o1 o2 o3 o4 o5 o6 o7 : Obj) : Below w.heap.size w (((((((w2.alloc o1).alloc o2).alloc o3).alloc o4).alloc o5).alloc o6).alloc o7) := by
  have h := b.size
  refine ((((((b.alloc h _).alloc ?_ _).alloc ?_ _).alloc ?_ _).alloc ?_ _).alloc ?_ _).alloc ?_ _ <;> simp <;> omega
theorem IsStrs.alloc {w : World} {a : Option Addr} {len : Nat} (h : IsStrs w a len) (o : Obj) : IsStrs (w.alloc o) a len := by
  rcases h with h | ⟨b, off, rfl, S, hc⟩
  · exact .inl h
  · refine .inr ⟨b, off, rfl, S, fun i hi => ?_⟩
    have h1 := hc i hi
    have hb : b < w.heap.size := by
      rcases Nat.lt_or_ge b w.heap.size with h' | h'
      · exact h'
      · simp [World.cell?, Array.getElem?_eq_none h'] at h1
    rw [((Below.refl _ w).alloc (Nat.le_refl _) o).cell (p := ⟨b, off + i, none⟩) hb]; exact h1

set_option maxHeartbeats 4000000 in
theorem main4 (typ name : ByteArray) (g : Option Addr) (a : Option Addr) (len cap x y z : Nat) (w : World) (ht : typ.size ≤ maxLen) (hn : name.size ≤ maxLen) (hl : len ≤ maxLen) (hs : IsStrs w a len)
    (hg : g = none ∨ ∃ p f, g = some p ∧ w.cell? p = some (.float .f64 f)) :
    Calls Try.prog 4 #[.string typ, .pointer g, .string name, .slice a len cap, .float .f64 x, .float .f64 y, .float .f64 z] w fun e w' => e = .returned (.bool true) ∧ Below w.heap.size w w' := by
  have c1 := zz15_any typ name (.pointer g) (.float .f64 x) (.float .f64 y) (.float .f64 z) a len cap w ht hn hl hs
  have c2 := big_any typ name a len cap w ht hn hl hs
  have i0 := better_irr (isMax typ) x
  rcases hg with rfl | ⟨p, f, rfl, hp⟩
  · cases hxy : better (isMax typ) x y
    · cases hyx : better (isMax typ) y x
      · cases h1 : (FloatKind.f64.format.order x x == some .eq)
        · go_enter Try.func4, Try.ntmps4
          go_wp2_with (go_at_call 15; refine c1.mono ?_)
          rintro e _ ⟨⟨r, rfl⟩, rfl⟩
          cases r
          · go_wp2
            go_ret
            exact ⟨rfl, Below.refl _ _⟩
          · go_wp2_with (go_at_call 16; refine c2.mono ?_)
            rintro e _ ⟨⟨r, rfl, hr⟩, rfl⟩
            cases r
            · have c3 := copy_any a len cap w (hr rfl) hs
              clear c1 c2 hr
              go_wp2_with (first | (go_at_call 17; refine (goal_nil _).mono ?_; rintro e _ ⟨rfl, rfl⟩) | (go_at_call 18; refine c3.mono ?_))
              rintro e w2 ⟨⟨a', n', c', rfl⟩, b2⟩
              have B2 := hide (b2)
              clear c3 b2 hs
              go_wp2_with (first | (go_at_call 19; refine (mk_any _ _ _ _ _ _ _).mono ?_; rintro e _ ⟨rfl, rfl⟩) | (go_at_call 20; refine (better_any _ _ _ _ _ _ _ _ _).mono ?_; rintro e _ ⟨rfl, rfl⟩))
              all_goals
                go_ret
                exact ⟨rfl, alloc7 B2.out _ _ _ _ _ _ _⟩
            · go_wp2
              go_ret
              exact ⟨rfl, Below.refl _ _⟩
        · cases h2 : (FloatKind.f64.format.order y y == some .eq)
          · go_enter Try.func4, Try.ntmps4
            go_wp2_with (go_at_call 15; refine c1.mono ?_)
            rintro e _ ⟨⟨r, rfl⟩, rfl⟩
            cases r
            · go_wp2
              go_ret
              exact ⟨rfl, Below.refl _ _⟩
            · go_wp2_with (go_at_call 16; refine c2.mono ?_)
              rintro e _ ⟨⟨r, rfl, hr⟩, rfl⟩
              cases r
              · have c3 := copy_any a len cap w (hr rfl) hs
                clear c1 c2 hr
                go_wp2_with (first | (go_at_call 17; refine (goal_nil _).mono ?_; rintro e _ ⟨rfl, rfl⟩) | (go_at_call 18; refine c3.mono ?_))
                rintro e w2 ⟨⟨a', n', c', rfl⟩, b2⟩
                have B2 := hide (b2)
                clear c3 b2 hs
                go_wp2_with (first | (go_at_call 19; refine (mk_any _ _ _ _ _ _ _).mono ?_; rintro e _ ⟨rfl, rfl⟩) | (go_at_call 20; refine (better_any _ _ _ _ _ _ _ _ _).mono ?_; rintro e _ ⟨rfl, rfl⟩))
                all_goals
                  go_ret
                  exact ⟨rfl, alloc7 B2.out _ _ _ _ _ _ _⟩
              · go_wp2
                go_ret
                exact ⟨rfl, Below.refl _ _⟩
          · have h3 := better_total _ _ _ hxy hyx h1 h2
            go_enter Try.func4, Try.ntmps4
            go_wp2_with (go_at_call 15; refine c1.mono ?_)
            rintro e _ ⟨⟨r, rfl⟩, rfl⟩
            cases r
            · go_wp2
              go_ret
              exact ⟨rfl, Below.refl _ _⟩
            · go_wp2_with (go_at_call 16; refine c2.mono ?_)
              rintro e _ ⟨⟨r, rfl, hr⟩, rfl⟩
              cases r
              · have c3 := copy_any a len cap w (hr rfl) hs
                clear c1 c2 hr
                go_wp2_with (first | (go_at_call 17; refine (goal_nil _).mono ?_; rintro e _ ⟨rfl, rfl⟩) | (go_at_call 18; refine c3.mono ?_))
                rintro e w2 ⟨⟨a', n', c', rfl⟩, b2⟩
                have B2 := hide (b2)
                clear c3 b2 hs
                go_wp2_with (first | (go_at_call 19; refine (mk_any _ _ _ _ _ _ _).mono ?_; rintro e _ ⟨rfl, rfl⟩) | (go_at_call 20; refine (better_any _ _ _ _ _ _ _ _ _).mono ?_; rintro e _ ⟨rfl, rfl⟩))
                all_goals
                  go_ret
                  exact ⟨rfl, alloc7 B2.out _ _ _ _ _ _ _⟩
              · go_wp2
                go_ret
                exact ⟨rfl, Below.refl _ _⟩
      · go_enter Try.func4, Try.ntmps4
        go_wp2_with (go_at_call 15; refine c1.mono ?_)
        rintro e _ ⟨⟨r, rfl⟩, rfl⟩
        cases r
        · go_wp2
          go_ret
          exact ⟨rfl, Below.refl _ _⟩
        · go_wp2_with (go_at_call 16; refine c2.mono ?_)
          rintro e _ ⟨⟨r, rfl, hr⟩, rfl⟩
          cases r
          · have c3 := copy_any a len cap w (hr rfl) hs
            clear c1 c2 hr
            go_wp2_with (first | (go_at_call 17; refine (goal_nil _).mono ?_; rintro e _ ⟨rfl, rfl⟩) | (go_at_call 18; refine c3.mono ?_))
            rintro e w2 ⟨⟨a', n', c', rfl⟩, b2⟩
            have B2 := hide (b2)
            clear c3 b2 hs
            go_wp2_with (first | (go_at_call 19; refine (mk_any _ _ _ _ _ _ _).mono ?_; rintro e _ ⟨rfl, rfl⟩) | (go_at_call 20; refine (better_any _ _ _ _ _ _ _ _ _).mono ?_; rintro e _ ⟨rfl, rfl⟩))
            all_goals
              go_ret
              exact ⟨rfl, alloc7 B2.out _ _ _ _ _ _ _⟩
          · go_wp2
            go_ret
            exact ⟨rfl, Below.refl _ _⟩
    · have hyx := better_asym _ _ _ hxy
      cases hyz : better (isMax typ) y z
      · go_enter Try.func4, Try.ntmps4
        go_wp2_with (go_at_call 15; refine c1.mono ?_)
        rintro e _ ⟨⟨r, rfl⟩, rfl⟩
        cases r
        · go_wp2
          go_ret
          exact ⟨rfl, Below.refl _ _⟩
        · go_wp2_with (go_at_call 16; refine c2.mono ?_)
          rintro e _ ⟨⟨r, rfl, hr⟩, rfl⟩
          cases r
          · have c3 := copy_any a len cap w (hr rfl) hs
            clear c1 c2 hr
            go_wp2_with (first | (go_at_call 17; refine (goal_nil _).mono ?_; rintro e _ ⟨rfl, rfl⟩) | (go_at_call 18; refine c3.mono ?_))
            rintro e w2 ⟨⟨a', n', c', rfl⟩, b2⟩
            have B2 := hide (b2)
            clear c3 b2 hs
            go_wp2_with (first | (go_at_call 19; refine (mk_any _ _ _ _ _ _ _).mono ?_; rintro e _ ⟨rfl, rfl⟩) | (go_at_call 20; refine (better_any _ _ _ _ _ _ _ _ _).mono ?_; rintro e _ ⟨rfl, rfl⟩))
            all_goals
              go_ret
              exact ⟨rfl, alloc7 B2.out _ _ _ _ _ _ _⟩
          · go_wp2
            go_ret
            exact ⟨rfl, Below.refl _ _⟩
      · have hxz := better_trans _ _ _ _ hxy hyz
        go_enter Try.func4, Try.ntmps4
        go_wp2_with (go_at_call 15; refine c1.mono ?_)
        rintro e _ ⟨⟨r, rfl⟩, rfl⟩
        cases r
        · go_wp2
          go_ret
          exact ⟨rfl, Below.refl _ _⟩
        · go_wp2_with (go_at_call 16; refine c2.mono ?_)
          rintro e _ ⟨⟨r, rfl, hr⟩, rfl⟩
          cases r
          · have c3 := copy_any a len cap w (hr rfl) hs
            clear c1 c2 hr
            go_wp2_with (first | (go_at_call 17; refine (goal_nil _).mono ?_; rintro e _ ⟨rfl, rfl⟩) | (go_at_call 18; refine c3.mono ?_))
            rintro e w2 ⟨⟨a', n', c', rfl⟩, b2⟩
            have B2 := hide (b2)
            clear c3 b2 hs
            go_wp2_with (first | (go_at_call 19; refine (mk_any _ _ _ _ _ _ _).mono ?_; rintro e _ ⟨rfl, rfl⟩) | (go_at_call 20; refine (better_any _ _ _ _ _ _ _ _ _).mono ?_; rintro e _ ⟨rfl, rfl⟩))
            all_goals
              go_ret
              exact ⟨rfl, alloc7 B2.out _ _ _ _ _ _ _⟩
          · go_wp2
            go_ret
            exact ⟨rfl, Below.refl _ _⟩
  · cases hxy : better (isMax typ) x y
    · cases hyx : better (isMax typ) y x
      · cases h1 : (FloatKind.f64.format.order x x == some .eq)
        · go_enter Try.func4, Try.ntmps4
          go_wp2_with (go_at_call 15; refine c1.mono ?_)
          rintro e _ ⟨⟨r, rfl⟩, rfl⟩
          cases r
          · go_wp2
            go_ret
            exact ⟨rfl, Below.refl _ _⟩
          · go_wp2_with (go_at_call 16; refine c2.mono ?_)
            rintro e _ ⟨⟨r, rfl, hr⟩, rfl⟩
            cases r
            · have c3 := copy_any a len cap (w.alloc (.cells #[.float .f64 f] 34)) (hr rfl) (hs.alloc _)
              clear c1 c2 hr
              go_wp2_with (first | (go_at_call 17; refine (goal_any _ _ _ hp).mono ?_; rintro e _ ⟨rfl, rfl⟩) | (go_at_call 18; refine c3.mono ?_))
              rintro e w2 ⟨⟨a', n', c', rfl⟩, b2⟩
              have B2 := hide (((Below.refl _ w).alloc (Nat.le_refl _) (.cells #[.float .f64 f] 34)).trans (b2.mono (by simp)))
              clear c3 b2 hs
              go_wp2_with (first | (go_at_call 19; refine (mk_any _ _ _ _ _ _ _).mono ?_; rintro e _ ⟨rfl, rfl⟩) | (go_at_call 20; refine (better_any _ _ _ _ _ _ _ _ _).mono ?_; rintro e _ ⟨rfl, rfl⟩))
              all_goals
                go_ret
                exact ⟨rfl, alloc7 B2.out _ _ _ _ _ _ _⟩
            · go_wp2
              go_ret
              exact ⟨rfl, Below.refl _ _⟩
        · cases h2 : (FloatKind.f64.format.order y y == some .eq)
          · go_enter Try.func4, Try.ntmps4
            go_wp2_with (go_at_call 15; refine c1.mono ?_)
            rintro e _ ⟨⟨r, rfl⟩, rfl⟩
            cases r
            · go_wp2
              go_ret
              exact ⟨rfl, Below.refl _ _⟩
            · go_wp2_with (go_at_call 16; refine c2.mono ?_)
              rintro e _ ⟨⟨r, rfl, hr⟩, rfl⟩
              cases r
              · have c3 := copy_any a len cap (w.alloc (.cells #[.float .f64 f] 34)) (hr rfl) (hs.alloc _)
                clear c1 c2 hr
                go_wp2_with (first | (go_at_call 17; refine (goal_any _ _ _ hp).mono ?_; rintro e _ ⟨rfl, rfl⟩) | (go_at_call 18; refine c3.mono ?_))
                rintro e w2 ⟨⟨a', n', c', rfl⟩, b2⟩
                have B2 := hide (((Below.refl _ w).alloc (Nat.le_refl _) (.cells #[.float .f64 f] 34)).trans (b2.mono (by simp)))
                clear c3 b2 hs
                go_wp2_with (first | (go_at_call 19; refine (mk_any _ _ _ _ _ _ _).mono ?_; rintro e _ ⟨rfl, rfl⟩) | (go_at_call 20; refine (better_any _ _ _ _ _ _ _ _ _).mono ?_; rintro e _ ⟨rfl, rfl⟩))
                all_goals
                  go_ret
                  exact ⟨rfl, alloc7 B2.out _ _ _ _ _ _ _⟩
              · go_wp2
                go_ret
                exact ⟨rfl, Below.refl _ _⟩
          · have h3 := better_total _ _ _ hxy hyx h1 h2
            go_enter Try.func4, Try.ntmps4
            go_wp2_with (go_at_call 15; refine c1.mono ?_)
            rintro e _ ⟨⟨r, rfl⟩, rfl⟩
            cases r
            · go_wp2
              go_ret
              exact ⟨rfl, Below.refl _ _⟩
            · go_wp2_with (go_at_call 16; refine c2.mono ?_)
              rintro e _ ⟨⟨r, rfl, hr⟩, rfl⟩
              cases r
              · have c3 := copy_any a len cap (w.alloc (.cells #[.float .f64 f] 34)) (hr rfl) (hs.alloc _)
                clear c1 c2 hr
                go_wp2_with (first | (go_at_call 17; refine (goal_any _ _ _ hp).mono ?_; rintro e _ ⟨rfl, rfl⟩) | (go_at_call 18; refine c3.mono ?_))
                rintro e w2 ⟨⟨a', n', c', rfl⟩, b2⟩
                have B2 := hide (((Below.refl _ w).alloc (Nat.le_refl _) (.cells #[.float .f64 f] 34)).trans (b2.mono (by simp)))
                clear c3 b2 hs
                go_wp2_with (first | (go_at_call 19; refine (mk_any _ _ _ _ _ _ _).mono ?_; rintro e _ ⟨rfl, rfl⟩) | (go_at_call 20; refine (better_any _ _ _ _ _ _ _ _ _).mono ?_; rintro e _ ⟨rfl, rfl⟩))
                all_goals
                  go_ret
                  exact ⟨rfl, alloc7 B2.out _ _ _ _ _ _ _⟩
              · go_wp2
                go_ret
                exact ⟨rfl, Below.refl _ _⟩
      · go_enter Try.func4, Try.ntmps4
        go_wp2_with (go_at_call 15; refine c1.mono ?_)
        rintro e _ ⟨⟨r, rfl⟩, rfl⟩
        cases r
        · go_wp2
          go_ret
          exact ⟨rfl, Below.refl _ _⟩
        · go_wp2_with (go_at_call 16; refine c2.mono ?_)
          rintro e _ ⟨⟨r, rfl, hr⟩, rfl⟩
          cases r
          · have c3 := copy_any a len cap (w.alloc (.cells #[.float .f64 f] 34)) (hr rfl) (hs.alloc _)
            clear c1 c2 hr
            go_wp2_with (first | (go_at_call 17; refine (goal_any _ _ _ hp).mono ?_; rintro e _ ⟨rfl, rfl⟩) | (go_at_call 18; refine c3.mono ?_))
            rintro e w2 ⟨⟨a', n', c', rfl⟩, b2⟩
            have B2 := hide (((Below.refl _ w).alloc (Nat.le_refl _) (.cells #[.float .f64 f] 34)).trans (b2.mono (by simp)))
            clear c3 b2 hs
            go_wp2_with (first | (go_at_call 19; refine (mk_any _ _ _ _ _ _ _).mono ?_; rintro e _ ⟨rfl, rfl⟩) | (go_at_call 20; refine (better_any _ _ _ _ _ _ _ _ _).mono ?_; rintro e _ ⟨rfl, rfl⟩))
            all_goals
              go_ret
              exact ⟨rfl, alloc7 B2.out _ _ _ _ _ _ _⟩
          · go_wp2
            go_ret
            exact ⟨rfl, Below.refl _ _⟩
    · have hyx := better_asym _ _ _ hxy
      cases hyz : better (isMax typ) y z
      · go_enter Try.func4, Try.ntmps4
        go_wp2_with (go_at_call 15; refine c1.mono ?_)
        rintro e _ ⟨⟨r, rfl⟩, rfl⟩
        cases r
        · go_wp2
          go_ret
          exact ⟨rfl, Below.refl _ _⟩
        · go_wp2_with (go_at_call 16; refine c2.mono ?_)
          rintro e _ ⟨⟨r, rfl, hr⟩, rfl⟩
          cases r
          · have c3 := copy_any a len cap (w.alloc (.cells #[.float .f64 f] 34)) (hr rfl) (hs.alloc _)
            clear c1 c2 hr
            go_wp2_with (first | (go_at_call 17; refine (goal_any _ _ _ hp).mono ?_; rintro e _ ⟨rfl, rfl⟩) | (go_at_call 18; refine c3.mono ?_))
            rintro e w2 ⟨⟨a', n', c', rfl⟩, b2⟩
            have B2 := hide (((Below.refl _ w).alloc (Nat.le_refl _) (.cells #[.float .f64 f] 34)).trans (b2.mono (by simp)))
            clear c3 b2 hs
            go_wp2_with (first | (go_at_call 19; refine (mk_any _ _ _ _ _ _ _).mono ?_; rintro e _ ⟨rfl, rfl⟩) | (go_at_call 20; refine (better_any _ _ _ _ _ _ _ _ _).mono ?_; rintro e _ ⟨rfl, rfl⟩))
            all_goals
              go_ret
              exact ⟨rfl, alloc7 B2.out _ _ _ _ _ _ _⟩
          · go_wp2
            go_ret
            exact ⟨rfl, Below.refl _ _⟩
      · have hxz := better_trans _ _ _ _ hxy hyz
        go_enter Try.func4, Try.ntmps4
        go_wp2_with (go_at_call 15; refine c1.mono ?_)
        rintro e _ ⟨⟨r, rfl⟩, rfl⟩
        cases r
        · go_wp2
          go_ret
          exact ⟨rfl, Below.refl _ _⟩
        · go_wp2_with (go_at_call 16; refine c2.mono ?_)
          rintro e _ ⟨⟨r, rfl, hr⟩, rfl⟩
          cases r
          · have c3 := copy_any a len cap (w.alloc (.cells #[.float .f64 f] 34)) (hr rfl) (hs.alloc _)
            clear c1 c2 hr
            go_wp2_with (first | (go_at_call 17; refine (goal_any _ _ _ hp).mono ?_; rintro e _ ⟨rfl, rfl⟩) | (go_at_call 18; refine c3.mono ?_))
            rintro e w2 ⟨⟨a', n', c', rfl⟩, b2⟩
            have B2 := hide (((Below.refl _ w).alloc (Nat.le_refl _) (.cells #[.float .f64 f] 34)).trans (b2.mono (by simp)))
            clear c3 b2 hs
            go_wp2_with (first | (go_at_call 19; refine (mk_any _ _ _ _ _ _ _).mono ?_; rintro e _ ⟨rfl, rfl⟩) | (go_at_call 20; refine (better_any _ _ _ _ _ _ _ _ _).mono ?_; rintro e _ ⟨rfl, rfl⟩))
            all_goals
              go_ret
              exact ⟨rfl, alloc7 B2.out _ _ _ _ _ _ _⟩
          · go_wp2
            go_ret
            exact ⟨rfl, Below.refl _ _⟩
end Go.Proofs.Qxb6601293a
