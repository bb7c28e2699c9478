import Derived.Test.Qxb6600183aLow
import Derived.Deep.OwnRows
import Derived.Laws.IdiomStrings
namespace Go.Proofs.Qxb6600183a
open Go.RowKit

def upU (c : UInt8) : UInt8 := if 97 ≤ c ∧ c ≤ 122 then c - 32 else c
theorem upU_fin : ∀ c : Fin 256, ((upU (UInt8.ofNat c.val)).toNat : Int) = capital ((UInt8.ofNat c.val).toNat : Int) := by decide +kernel
theorem upU_nat (c : UInt8) : ((upU c).toNat : Int) = capital (c.toNat : Int) := by
  have h := upU_fin ⟨c.toNat, c.toNat_lt⟩
  simpa using h
def flU (c : UInt8) : UInt8 := if lowU c ≠ c then lowU c else upU c

/-- a row of n cells whose first k hold the first k bytes of l, the others 0 -/
def rowFn (l : List UInt8) (k : Nat) (j : Nat) : Value := if j < k then .int .u8 ((l.getD j 0).toNat : Int) else .int .u8 0
theorem rowFn_set {w : World} {b n : Nat} {l : List UInt8} {k : Nat} (h : w.rowIs b 5 n (rowFn l k)) (v : Int) (hv : v = ((l.getD k 0).toNat : Int)) :
    (w.setCell ⟨b, k, none⟩ (.int .u8 v)).rowIs b 5 n (rowFn l (k + 1)) := by
  refine (h.set k _).congr fun j _ => ?_
  unfold rowFn
  by_cases e : j = k
  · subst e; simp [hv]
  · by_cases e2 : j < k
    · rw [if_neg e, if_pos e2, if_pos (by omega)]
    · rw [if_neg e, if_neg e2, if_neg (by omega)]
theorem getD_map (s : ByteArray) (f : UInt8 → UInt8) (k : Nat) (h : k < s.size) : (s.data.toList.map f).getD k 0 = f (s[k]'h) := by
  have h' : k < s.data.toList.length := h
  simp [List.getD, List.getElem?_eq_getElem h']
  rfl

theorem info5 : (Try.prog.info? 5).map (fun i => (i.zero, i.size, i.bytes)) = some (some (.int .u8 0), 1, 1) := by kernel_rfl

theorem conv_row (w : World) (b n : Nat) (l : List UInt8) (hl : l.length = n) (h : w.rowIs b 5 n (rowFn l n)) :
    (convert 37 9 (.slice (some ⟨b, 0, none⟩) n n)).run Try.prog w = .ok (.string ⟨l.toArray⟩) w := by
  subst hl
  refine run_convert_bytes_back w 37 9 5 ⟨b, 0, none⟩ l.length l Try.underlying37 Try.underlying5 Try.underlying9 ?_
  intro j hj
  have ha : (⟨b, 0, none⟩ : Addr).add j = ⟨b, j, none⟩ := by unfold Addr.add; split <;> simp_all
  rw [ha, h.cell hj]
  simp [rowFn, hj]

set_option maxHeartbeats 1000000 in
theorem upperAll_any (s : ByteArray) (w : World) (hs : s.size ≤ 1048576) :
    Calls Try.prog 22 #[.string s] w fun e w' => e = .returned (.string ⟨(s.data.toList.map upU).toArray⟩) ∧ Below w.heap.size w w' := by
  have hmk := run_make_row' (P := Try.prog) 37 5 (.int .u8 0) 1 Try.underlying37 info5 rfl .i64 .i64 s.size (by omega) (by omega)
  go_enter Try.func22, Try.ntmps22
  go_wp2
  go_loopw [4] (fun i wr => ∃ k : Nat, k ≤ s.size ∧ i = .int .i64 k ∧ wr.rowIs w.heap.size 5 s.size (rowFn (s.data.toList.map upU) k) ∧ Below w.heap.size w wr) (fun i _ => s.size - (intOf i).toNat)
  case atStart => exact ⟨0, by omega, rfl, (World.rowIs_made w (.int .u8 0) s.size 5).congr (fun i _ => by simp [rowFn]), (Below.refl _ w).alloc (Nat.le_refl _) _⟩
  case round =>
    obtain ⟨k, hk, rfl, hrow, hb⟩ := hrel
    by_cases hlt : k < s.size
    · have hc : wr.cell? ⟨w.heap.size, k, none⟩ = some (rowFn (s.data.toList.map upU) k k) := hrow.cell hlt
      have hf : wr.frozen? ⟨w.heap.size, k, none⟩ = false := hrow.frozen k
      have hz : w.heap.size < wr.heap.size := hrow.lt
      have HV := hide (show capital ((s[k]'hlt).toNat : Int) = (((s.data.toList.map upU).getD k 0).toNat : Int) by rw [getD_map s upU k hlt, upU_nat])
      have HR := hide hrow
      clear hrow
      go_wp2_with (go_at_call 30; refine (turn (capitalOf_any _ _)).mono ?_; rintro e w' ⟨rfl, rfl⟩)
      go_roundw
      case rel => exact ⟨k + 1, by omega, by go_num, rowFn_set HR.out _ HV.out, hb.setCell (p := ⟨w.heap.size, k, none⟩) (Nat.le_refl _) _⟩
      case measure => simp [intOf]; omega
    · obtain rfl : k = s.size := by omega
      have hcv := conv_row wr w.heap.size s.size (s.data.toList.map upU) (by simp) hrow
      go_wp2
      go_ret
      exact ⟨rfl, hb⟩

set_option maxHeartbeats 1000000 in
theorem flipCase_any (s : ByteArray) (w : World) (hs : s.size ≤ 1048576) :
    Calls Try.prog 18 #[.string s] w fun e w' => e = .returned (.string ⟨(s.data.toList.map flU).toArray⟩) ∧ Below w.heap.size w w' := by
  have hmk := run_make_row' (P := Try.prog) 37 5 (.int .u8 0) 1 Try.underlying37 info5 rfl .i64 .i64 s.size (by omega) (by omega)
  go_enter Try.func18, Try.ntmps18
  go_wp2
  go_loopw [4, 5, 6] (fun i _ _ wr => ∃ k : Nat, k ≤ s.size ∧ i = .int .i64 k ∧ wr.rowIs w.heap.size 5 s.size (rowFn (s.data.toList.map flU) k) ∧ Below w.heap.size w wr) (fun i _ _ _ => s.size - (intOf i).toNat)
  case atStart => exact ⟨0, by omega, rfl, (World.rowIs_made w (.int .u8 0) s.size 5).congr (fun i _ => by simp [rowFn]), (Below.refl _ w).alloc (Nat.le_refl _) _⟩
  case round =>
    obtain ⟨k, hk, rfl, hrow, hb⟩ := hrel
    by_cases hlt : k < s.size
    · have hc : wr.cell? ⟨w.heap.size, k, none⟩ = some (rowFn (s.data.toList.map flU) k k) := hrow.cell hlt
      have hf : wr.frozen? ⟨w.heap.size, k, none⟩ = false := hrow.frozen k
      have hz : w.heap.size < wr.heap.size := hrow.lt
      have HR := hide hrow
      clear hrow
      cases hne : (small ((s[k]'hlt).toNat : Int) != ((s[k]'hlt).toNat : Int))
      · have HV := hide (show capital ((s[k]'hlt).toNat : Int) = (((s.data.toList.map flU).getD k 0).toNat : Int) by
          rw [getD_map s flU k hlt, flU, if_neg, upU_nat]
          intro h; apply h; rw [bne_eq_false_iff_eq, ← lowU_nat] at hne
          exact UInt8.toNat_inj.1 (by omega))
        go_wp2_with (first | (go_at_call 30; refine (turn (capitalOf_any _ _)).mono ?_; rintro e w' ⟨rfl, rfl⟩) | (go_at_call 29; refine (turn (smallOf_any _ _)).mono ?_; rintro e w' ⟨rfl, rfl⟩))
        go_roundw
        case rel => exact ⟨k + 1, by omega, by go_num, rowFn_set HR.out _ HV.out, hb.setCell (p := ⟨w.heap.size, k, none⟩) (Nat.le_refl _) _⟩
        case measure => simp [intOf]; omega
      · have HV := hide (show small ((s[k]'hlt).toNat : Int) = (((s.data.toList.map flU).getD k 0).toNat : Int) by
          rw [getD_map s flU k hlt, flU, if_pos, lowU_nat]
          intro h; rw [bne_iff_ne, ← lowU_nat, h] at hne; exact hne rfl)
        go_wp2_with (first | (go_at_call 30; refine (turn (capitalOf_any _ _)).mono ?_; rintro e w' ⟨rfl, rfl⟩) | (go_at_call 29; refine (turn (smallOf_any _ _)).mono ?_; rintro e w' ⟨rfl, rfl⟩))
        go_roundw
        case rel => exact ⟨k + 1, by omega, by go_num, rowFn_set HR.out _ HV.out, hb.setCell (p := ⟨w.heap.size, k, none⟩) (Nat.le_refl _) _⟩
        case measure => simp [intOf]; omega
    · obtain rfl : k = s.size := by omega
      have hcv := conv_row wr w.heap.size s.size (s.data.toList.map flU) (by simp) hrow
      go_wp2
      go_ret
      exact ⟨rfl, hb⟩
end Go.Proofs.Qxb6600183a
