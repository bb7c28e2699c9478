import Derived.Test.Qxb6600183aGrow
import Derived.Test.Qxb6600183aLow
namespace Go.Proofs.Qxb6600183a
open Go.RowKit

set_option maxHeartbeats 2000000 in
set_option maxRecDepth 1000000 in
/-- Grow(64) at a builder that has not been written, with the frame that reaches above the builder -/
theorem grow64 (B b : Nat) (w : World) (hB : B ≤ b) (hbk : w.heap[b]? = some (.cells #[.pointer none, .slice none 0 0] 39 (0, 0))) (hBw : B ≤ w.heap.size) :
    Calls Try.prog 38 #[.pointer (some ⟨b, 0, none⟩), .int .i64 64] w fun e w' => e = .returned (.tuple #[]) ∧ Bld B b [] w' ∧ Below B w w' ∧ Lib.OthersKept 5 (some b) w w' := by
  have hbk1 : (w.setCell ⟨b, 0, none⟩ (.pointer (some ⟨b, 0, none⟩))).heap[b]? = some (.cells #[.pointer (some ⟨b, 0, none⟩), .slice none 0 0] 39 (0, 0)) := by
    simp [World.setCell, Array.getElem?_modify, hbk]
  have c1 : (w.setCell ⟨b, 0, none⟩ (.pointer (some ⟨b, 0, none⟩))).cell? ⟨b, 1, none⟩ = some (.slice none 0 0) := by rw [Lib.cell_of_heap hbk1]; rfl
  have hb1 : Below B w (w.setCell ⟨b, 0, none⟩ (.pointer (some ⟨b, 0, none⟩))) := (Below.refl B w).setCell (p := ⟨b, 0, none⟩) hB _
  have hk1 : Lib.OthersKept 5 (some b) w (w.setCell ⟨b, 0, none⟩ (.pointer (some ⟨b, 0, none⟩))) := (Lib.OthersKept.refl _ _ w).setCell ⟨b, 0, none⟩ rfl _
  have mixed := Try.lays169.mixed
  have c1' : (w.setCell ⟨b, 0, none⟩ (.pointer (some ⟨b, 0, none⟩))).drew.cell? ⟨b, 1, none⟩ = some (.slice none 0 0) := c1
  have cc := Any.Builder_copyCheck_fresh (P := Try.prog) (ρ := Try.lays165_ren) { Try.lays165 with } Try.Builder_Extra_165.toX72 b w (by rw [Lib.cell_of_heap hbk]; rfl) (by simp [World.shape?, hbk]; rfl) (Lib.frozen_of_heap hbk 0)
  have cc' : Calls Try.prog 42 #[.pointer (some ⟨b, 0, none⟩)] w fun e w' => e = .returned (.tuple #[]) ∧ w.setCell ⟨b, 0, none⟩ (.pointer (some ⟨b, 0, none⟩)) = w' := cc.mono fun _ _ ⟨a, c⟩ => ⟨a, c.symm⟩
  clear cc
  have cg := fun n => grow_exact b 64 ((w.setCell ⟨b, 0, none⟩ (.pointer (some ⟨b, 0, none⟩))).drewN n) hbk1 (by omega)
  have HK := hk1
  clear hk1
  go_enter Try.func38, Try.ntmps38
  go_wp2_with (go_at_call 42; refine cc'.mono ?_; rintro e w' ⟨rfl, rfl⟩)
  go_quiet (fail)
  obtain ⟨W1, hW1⟩ : ∃ W1, W1 = (w.setCell ⟨b, 0, none⟩ (.pointer (some ⟨b, 0, none⟩))).drewN nq := ⟨_, rfl⟩
  have fin : ∀ w2, (∃ cs : Array Value, 64 ≤ cs.size ∧ cs.size ≤ maxLen ∧ w2 = ((W1.alloc (.cells cs 5)).setCell ⟨b, 1, none⟩ (.slice (some ⟨W1.heap.size, 0, none⟩) 0 cs.size)).drew.drew.drew) → Bld B b [] w2 ∧ Below B w w2 ∧ Lib.OthersKept 5 (some b) w w2 := by
    rintro w2 ⟨cs, hle, hm, rfl⟩
    have hbk2 : W1.heap[b]? = some (.cells #[.pointer (some ⟨b, 0, none⟩), .slice none 0 0] 39 (0, 0)) := by rw [hW1]; exact hbk1
    have hBw2 : B ≤ W1.heap.size := by rw [hW1]; simpa [World.setCell] using hBw
    have hb2 : Below B w W1 := by rw [hW1]; exact hb1.trans ⟨rfl, rfl, rfl, Nat.le_refl _, fun _ _ => rfl⟩
    have hk2 : Lib.OthersKept 5 (some b) w W1 := by rw [hW1]; exact HK
    have hfin := Lib.grown_fresh (T := 39) (e := 5) (cs := cs) (w := W1) hB hbk2 hBw2 hm (by decide)
    have hlt : b < W1.heap.size := by
      rcases Nat.lt_or_ge b W1.heap.size with h' | h'
      · exact h'
      · simp [Array.getElem?_eq_none h'] at hbk2
    have c2 : (W1.alloc (.cells cs 5)).cell? ⟨b, 1, none⟩ = some (.slice none 0 0) := by
      have : (W1.alloc (.cells cs 5)).heap[b]? = _ := (Lib.alloc_old W1 _ b hlt).trans hbk2
      rw [Lib.cell_of_heap this]; rfl
    refine ⟨⟨Lib.IsBuilderF.of (Or.inr hfin.1), _, 0, cs.size, World.cell?_setCell_same _ _ _ c2, by omega⟩, hb2.trans hfin.2, ?_⟩
    exact ((((hk2.alloc _).setCell ⟨b, 1, none⟩ rfl _).drew).drew).drew
  have HF := hide fin
  have CG := (cg nq)
  rw [← hW1] at CG
  have hW1' := hide hW1
  clear fin cg hW1 cc' c1' c1 hbk1 hb1 HK
  rw [← hW1'.out]
  clear hW1'
  go_wp2_with (go_at_call 43; refine CG.mono ?_)
  rintro e w2 ⟨rfl, hex⟩
  have hR := hide (HF.out w2 hex)
  clear hex CG HF
  go_wp2
  go_end0
  exact ⟨rfl, hR.out⟩
end Go.Proofs.Qxb6600183a
