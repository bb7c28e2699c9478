import Derived.Test.Qxb6601293aSets
import Derived.Deep.RegionWith
import Derived.Deep.QuietTactic
import Derived.BigQuiet
import Derived.BigRegion
namespace Go.Proofs.Qxb6601293a
open Go.RowKit

theorem info26 : (Try.prog.info? 26).map (fun i => (i.zero, i.size, i.bytes)) = some (some (.agg #[.string ⟨#[]⟩, .int .i64 0, .bool false]), 3, 32) := by kernel_rfl
theorem info47 : (Try.prog.info? 47).map (fun i => (i.zero, i.size, i.bytes)) = some (some (.agg #[.string ⟨#[]⟩, .int .i64 0, .bool false]), 3, 32) := by kernel_rfl
def z3 : Array Value := #[.string ⟨#[]⟩, .int .i64 0, .bool false]
theorem make3 (t e : TypeId) (ht : Try.prog.underlying t = some (.slice e)) (hinfo : (Try.prog.info? e).map (fun i => (i.zero, i.size, i.bytes)) = some (some (.agg #[.string ⟨#[]⟩, .int .i64 0, .bool false]), 3, 32))
    (n : Nat) (hn : n ≤ 32768) (w : World) :
    (Instr.makeSlice t (.int .i64 (n : Int)) (.int .i64 (n : Int))).run Try.prog w = .ok (.slice (some ⟨w.heap.size, 0, none⟩) n n) (w.alloc (.cells (madeCells z3 (n * 3)) e)) := by
  obtain ⟨i, hi, hzz⟩ := Option.map_eq_some_iff.1 hinfo
  simp only [Prod.mk.injEq] at hzz
  obtain ⟨hz, hs, hb⟩ := hzz
  have hr := run_make (P := Try.prog) w t e i _ ht hi hz .i64 .i64 n n (by omega) (Int.le_refl _) (by rw [hb]; omega) (by omega)
  simp only [Int.toNat_natCast, hs] at hr
  exact hr
theorem row3_made (w : World) (n : Nat) (t : TypeId) : (w.alloc (.cells (madeCells z3 (n * 3)) t)).rowIs w.heap.size t (n * 3) (fun i => z3[i % 3]!) := by
  have h := World.rowIs_alloc w (madeCells z3 (n * 3)) t (fun i => z3[i % 3]!) (fun i hi => by
    rw [size_madeCells] at hi
    simp [madeCells, hi, z3])
  rw [size_madeCells] at h
  exact h

/-- the first k settings are laid, the others as they were -/
def rowK (C f : Nat → Value) (k j : Nat) : Value := if j < k * 3 then C j else f j
theorem rowK_zero (C f : Nat → Value) : rowK C f 0 = f := by funext j; unfold rowK; rw [if_neg (by omega)]
theorem rowK_set {w : World} {b n : Nat} {t : TypeId} {C f : Nat → Value} {k : Nat} (h : w.rowIs b t n (rowK C f k)) (v0 v1 v2 : Value) (h0 : C (k * 3) = v0) (h1 : C (k * 3 + 1) = v1) (h2 : C (k * 3 + 2) = v2) :
    (((w.setCell ⟨b, k * 3, none⟩ v0).setCell ⟨b, k * 3 + 1, none⟩ v1).setCell ⟨b, k * 3 + 2, none⟩ v2).rowIs b t n (rowK C f (k + 1)) := by
  refine (((h.set (k * 3) v0).set (k * 3 + 1) v1).set (k * 3 + 2) v2).congr fun j _ => ?_
  unfold rowK
  by_cases e2 : j = k * 3 + 2
  · subst e2; rw [if_pos rfl, if_pos (by omega), h2]
  · rw [if_neg e2]
    by_cases e1 : j = k * 3 + 1
    · subst e1; rw [if_pos rfl, if_pos (by omega), h1]
    · rw [if_neg e1]
      by_cases e0 : j = k * 3
      · subst e0; rw [if_pos rfl, if_pos (by omega), h0]
      · rw [if_neg e0]
        by_cases e : j < k * 3
        · rw [if_pos e, if_pos (by omega)]
        · rw [if_neg e, if_neg (by omega)]
theorem rowK_all {w : World} {b n : Nat} {t : TypeId} {C f : Nat → Value} (h : w.rowIs b t (n * 3) (rowK C f n)) : w.rowIs b t (n * 3) C :=
  h.congr fun j hj => by unfold rowK; rw [if_pos hj]

set_option maxHeartbeats 1000000 in
theorem copySets (b off len cap : Nat) (S : Nat → ByteArray) (L : Nat → Int) (T : Nat → Bool) (w : World) (hl : len ≤ 32768) (hb : b < w.heap.size)
    (hc : ∀ j, j < len * 3 → w.cell? ⟨b, off + j, none⟩ = some (setC S L T j)) :
    Calls Try.prog 11 #[.slice (some ⟨b, off, none⟩) len cap] w fun e w' => e = .returned (.slice (some ⟨w.heap.size, 0, none⟩) len len) ∧ w'.rowIs w.heap.size 26 (len * 3) (setC S L T) ∧ Below w.heap.size w w' := by
  have hnil := Lib.run_eql_slice_nil (P := Try.prog) w 22 26 (some ⟨b, off, none⟩) len cap 0 0 Try.underlying22
  have hmk := make3 22 26 Try.underlying22 info26 len hl
  go_enter Try.func11, Try.ntmps11
  go_wp2
  go_loopw [4] (fun i wr => ∃ (k : Nat), k ≤ len ∧ i = .int .i64 k ∧ wr.rowIs w.heap.size 26 (len * 3) (rowK (setC S L T) (fun i => z3[i % 3]!) k) ∧ Below w.heap.size w wr) (fun i _ => len - (intOf i).toNat)
  case atStart => exact ⟨0, by omega, rfl, by rw [rowK_zero]; exact row3_made w len 26, (Below.refl _ w).alloc (Nat.le_refl _) _⟩
  case round =>
    obtain ⟨k, hk, rfl, hrow, hbl⟩ := hrel
    by_cases hlt : k < len
    · have s0 : wr.cell? ⟨b, off + k * 3, none⟩ = some (.string (S k)) := by rw [hbl.cell (p := ⟨b, off + k * 3, none⟩) hb, hc (k * 3) (by omega), setC0]
      have s1 : wr.cell? ⟨b, off + k * 3 + 1, none⟩ = some (.int .i64 (L k)) := by rw [hbl.cell (p := ⟨b, off + k * 3 + 1, none⟩) hb, Nat.add_assoc, hc (k * 3 + 1) (by omega), setC1]
      have s2 : wr.cell? ⟨b, off + k * 3 + 2, none⟩ = some (.bool (T k)) := by rw [hbl.cell (p := ⟨b, off + k * 3 + 2, none⟩) hb, Nat.add_assoc, hc (k * 3 + 2) (by omega), setC2]
      obtain ⟨d0, q0⟩ : ∃ v, wr.cell? ⟨w.heap.size, k * 3, none⟩ = some v := ⟨_, hrow.cell (by omega)⟩
      obtain ⟨d1, q1⟩ : ∃ v, wr.cell? ⟨w.heap.size, k * 3 + 1, none⟩ = some v := ⟨_, hrow.cell (by omega)⟩
      obtain ⟨d2, q2⟩ : ∃ v, wr.cell? ⟨w.heap.size, k * 3 + 2, none⟩ = some v := ⟨_, hrow.cell (by omega)⟩
      have hf : ∀ j, wr.frozen? ⟨w.heap.size, j, none⟩ = false := fun j => hrow.frozen j
      have hz : w.heap.size < wr.heap.size := hrow.lt
      have HR := hide hrow
      clear hrow hc hmk hnil
      go_wp2
      go_roundw
      case rel => exact ⟨k + 1, by omega, by go_num, rowK_set HR.out _ _ _ (setC0 _ _ _ _) (setC1 _ _ _ _) (setC2 _ _ _ _), ((hbl.setCell (p := ⟨w.heap.size, k * 3, none⟩) (Nat.le_refl _) _).setCell (p := ⟨w.heap.size, k * 3 + 1, none⟩) (Nat.le_refl _) _).setCell (p := ⟨w.heap.size, k * 3 + 2, none⟩) (Nat.le_refl _) _⟩
      case measure => simp [intOf]; omega
    · go_wp2
      go_ret
      obtain rfl : k = len := by omega
      exact ⟨rfl, rowK_all hrow, hbl⟩

set_option maxHeartbeats 2000000 in
theorem toKnown (b len : Nat) (S : Nat → ByteArray) (L : Nat → Int) (T : Nat → Bool) (w : World) (hl : len ≤ 32768) (hb : b < w.heap.size)
    (hc : ∀ j, j < len * 3 → w.cell? ⟨b, j, none⟩ = some (setC S L T j)) :
    Calls Try.prog 13 #[.slice (some ⟨b, 0, none⟩) len len] w fun e w' => e = .returned (.slice (some ⟨w.heap.size, 0, none⟩) len len) ∧ w'.rowIs w.heap.size 47 (len * 3) (setC S L T) ∧ Below w.heap.size w w' := by
  have hnil := Lib.run_eql_slice_nil (P := Try.prog) w 22 26 (some ⟨b, 0, none⟩) len len 0 0 Try.underlying22
  have hmk := make3 29 47 Try.underlying29 info47 len hl
  go_enter Try.func13, Try.ntmps13
  go_wp2
  go_loopw [4] (fun i wr => ∃ (k : Nat), k ≤ len ∧ i = .int .i64 k ∧ wr.rowIs w.heap.size 47 (len * 3) (rowK (setC S L T) (fun i => z3[i % 3]!) k) ∧ Below w.heap.size w wr) (fun i _ => len - (intOf i).toNat)
  case atStart => exact ⟨0, by omega, rfl, by rw [rowK_zero]; exact row3_made w len 47, (Below.refl _ w).alloc (Nat.le_refl _) _⟩
  case round =>
    obtain ⟨k, hk, rfl, hrow, hbl⟩ := hrel
    by_cases hlt : k < len
    · have s0 : wr.cell? ⟨b, k * 3, none⟩ = some (.string (S k)) := by rw [hbl.cell (p := ⟨b, k * 3, none⟩) hb, hc (k * 3) (by omega), setC0]
      have s1 : wr.cell? ⟨b, k * 3 + 1, none⟩ = some (.int .i64 (L k)) := by rw [hbl.cell (p := ⟨b, k * 3 + 1, none⟩) hb, hc (k * 3 + 1) (by omega), setC1]
      have s2 : wr.cell? ⟨b, k * 3 + 2, none⟩ = some (.bool (T k)) := by rw [hbl.cell (p := ⟨b, k * 3 + 2, none⟩) hb, hc (k * 3 + 2) (by omega), setC2]
      obtain ⟨d0, q0⟩ : ∃ v, wr.cell? ⟨w.heap.size, k * 3, none⟩ = some v := ⟨_, hrow.cell (by omega)⟩
      obtain ⟨d1, q1⟩ : ∃ v, wr.cell? ⟨w.heap.size, k * 3 + 1, none⟩ = some v := ⟨_, hrow.cell (by omega)⟩
      obtain ⟨d2, q2⟩ : ∃ v, wr.cell? ⟨w.heap.size, k * 3 + 2, none⟩ = some v := ⟨_, hrow.cell (by omega)⟩
      have hf : ∀ j, wr.frozen? ⟨w.heap.size, j, none⟩ = false := fun j => hrow.frozen j
      have hz : w.heap.size < wr.heap.size := hrow.lt
      have hlt' : (k : Int) < (len : Int) := by omega
      have HR := hide hrow
      clear hrow hc hmk hnil
      go_wp2
      go_region
      go_wp2
      go_roundw
      case rel => exact ⟨k + 1, by omega, by go_num, rowK_set HR.out _ _ _ (setC0 _ _ _ _) (setC1 _ _ _ _) (setC2 _ _ _ _), (((hbl.setCell (p := ⟨w.heap.size, k * 3, none⟩) (Nat.le_refl _) _).setCell (p := ⟨w.heap.size, k * 3 + 1, none⟩) (Nat.le_refl _) _).setCell (p := ⟨w.heap.size, k * 3 + 2, none⟩) (Nat.le_refl _) _).drew⟩
      case measure => simp [intOf]; omega
    · go_wp2
      go_ret
      obtain rfl : k = len := by omega
      exact ⟨rfl, rowK_all hrow, hbl⟩
end Go.Proofs.Qxb6601293a
