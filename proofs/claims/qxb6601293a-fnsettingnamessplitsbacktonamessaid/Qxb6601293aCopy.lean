import Derived.Test.Qxb6601293aBase
import Derived.Lib.SliceRun
namespace Go.Proofs.Qxb6601293a
open Go.RowKit

theorem info9 : (Try.prog.info? 9).map (fun i => (i.zero, i.size, i.bytes)) = some (some (.string ⟨#[]⟩), 1, 16) := by kernel_rfl

/-- an answer that is a slice -/
def AnsSlice (e : Ending) : Prop := ∃ a n c, e = .returned (.slice a n c)
theorem ansSlice (a : Option Addr) (n c : Nat) : AnsSlice (.returned (.slice a n c)) := ⟨a, n, c, rfl⟩

set_option maxHeartbeats 1000000 in
theorem copy_row (b off len cap : Nat) (S : Nat → ByteArray) (w : World) (hl : len ≤ 65536) (hb : b < w.heap.size)
    (hc : ∀ i, i < len → w.cell? ⟨b, off + i, none⟩ = some (.string (S i))) :
    Calls Try.prog 18 #[.slice (some ⟨b, off, none⟩) len cap] w fun e w' => AnsSlice e ∧ Below w.heap.size w w' := by
  have hnil := Lib.run_eql_slice_nil (P := Try.prog) w 31 9 (some ⟨b, off, none⟩) len cap 0 0 Try.underlying31
  have hmk := run_make_row' (P := Try.prog) 31 9 (.string ⟨#[]⟩) 16 Try.underlying31 info9 rfl .i64 .i64 len (by omega) (by omega)
  go_enter Try.func18, Try.ntmps18
  go_wp2
  go_loopw [4] (fun i wr => ∃ (k : Nat) (f : Nat → Value), k ≤ len ∧ i = .int .i64 k ∧ wr.rowIs w.heap.size 9 len f ∧ Below w.heap.size w wr) (fun i _ => len - (intOf i).toNat)
  case atStart => exact ⟨0, _, by omega, rfl, World.rowIs_made w (.string ⟨#[]⟩) len 9, (Below.refl _ w).alloc (Nat.le_refl _) _⟩
  case round =>
    obtain ⟨k, f, hk, rfl, hrow, hbl⟩ := hrel
    by_cases hlt : k < len
    · have hck : wr.cell? ⟨b, off + k, none⟩ = some (.string (S k)) := by rw [hbl.cell (p := ⟨b, off + k, none⟩) hb]; exact hc k hlt
      have hcr : wr.cell? ⟨w.heap.size, k, none⟩ = some (f k) := hrow.cell hlt
      have hf : wr.frozen? ⟨w.heap.size, k, none⟩ = false := hrow.frozen k
      have hz : w.heap.size < wr.heap.size := hrow.lt
      have HR := hide hrow
      clear hrow hc hmk hnil
      go_wp2
      go_roundw
      case rel => exact ⟨k + 1, _, by omega, by go_num, HR.out.set k _, hbl.setCell (p := ⟨w.heap.size, k, none⟩) (Nat.le_refl _) _⟩
      case measure => simp [intOf]; omega
    · go_wp2
      go_ret
      exact ⟨ansSlice _ _ _, hbl⟩

set_option maxHeartbeats 1000000 in
theorem copy_none (a : Option Addr) (cap : Nat) (w : World) :
    Calls Try.prog 18 #[.slice a 0 cap] w fun e w' => AnsSlice e ∧ Below w.heap.size w w' := by
  cases a with
  | none =>
    have hnil := Lib.run_eql_slice_nil (P := Try.prog) w 31 9 none 0 cap 0 0 Try.underlying31
    go_enter Try.func18, Try.ntmps18
    go_wp2
    go_ret
    exact ⟨ansSlice _ _ _, Below.refl _ _⟩
  | some x =>
    have hnil := Lib.run_eql_slice_nil (P := Try.prog) w 31 9 (some x) 0 cap 0 0 Try.underlying31
    have hmk : ∀ W : World, (Instr.makeSlice 31 (.int .i64 0) (.int .i64 0)).run Try.prog W = .ok (.slice (some ⟨W.heap.size, 0, none⟩) 0 0) (W.alloc (.cells (madeCells #[.string ⟨#[]⟩] 0) 9)) := fun W => run_make_row' (P := Try.prog) 31 9 (.string ⟨#[]⟩) 16 Try.underlying31 info9 rfl .i64 .i64 0 (by omega) (by omega) W
    go_enter Try.func18, Try.ntmps18
    go_wp2
    go_loopw [4] (fun i wr => i = .int .i64 0 ∧ Below w.heap.size w wr) (fun i _ => 0)
    case atStart => exact ⟨rfl, (Below.refl _ w).alloc (Nat.le_refl _) _⟩
    case round =>
      obtain ⟨rfl, hbl⟩ := hrel
      go_wp2
      go_ret
      exact ⟨ansSlice _ _ _, hbl⟩

theorem copy_any (a : Option Addr) (len cap : Nat) (w : World) (hl : len ≤ 65536) (hs : IsStrs w a len) :
    Calls Try.prog 18 #[.slice a len cap] w fun e w' => AnsSlice e ∧ Below w.heap.size w w' := by
  by_cases h0 : len = 0
  · subst h0; exact copy_none a cap w
  · rcases hs with h | ⟨b, off, rfl, S, hc⟩
    · exact absurd h h0
    · have hb : b < w.heap.size := by
        have h1 := hc 0 (by omega)
        rcases Nat.lt_or_ge b w.heap.size with h' | h'
        · exact h'
        · simp [World.cell?, Array.getElem?_eq_none h'] at h1
      exact copy_row b off len cap S w hl hb hc

/-- is it the direction 'maximize'? -/
def isMax (typ : ByteArray) : Bool := typ.toList == [109, 97, 120, 105, 109, 105, 122, 101]
def better (mx : Bool) (x y : Nat) : Bool := if mx then FloatKind.f64.format.order x y == some .gt else FloatKind.f64.format.order x y == some .lt

set_option maxHeartbeats 1000000 in
theorem better_any (typ name : ByteArray) (g a : Option Addr) (n c x y : Nat) (w : World) :
    Calls Try.prog 20 #[.agg #[.string typ, .pointer g, .string name, .slice a n c], .float .f64 x, .float .f64 y] w fun e w' => e = .returned (.bool (better (isMax typ) x y)) ∧ w.alloc (.cells #[.string typ, .pointer g, .string name, .slice a n c] 41) = w' := by
  cases h : isMax typ
  · have h' : (typ.toList == [109, 97, 120, 105, 109, 105, 122, 101]) = false := h
    go_enter Try.func20, Try.ntmps20
    go_wp2
    go_ret
    exact ⟨rfl, rfl⟩
  · have h' : (typ.toList == [109, 97, 120, 105, 109, 105, 122, 101]) = true := h
    go_enter Try.func20, Try.ntmps20
    go_wp2
    go_ret
    exact ⟨rfl, rfl⟩

set_option maxHeartbeats 1000000 in
theorem mk_any (typ name : ByteArray) (g a : Option Addr) (n c : Nat) (w : World) :
    Calls Try.prog 19 #[.string typ, .pointer g, .string name, .slice a n c] w fun e w' => e = .returned (.agg #[.string typ, .pointer g, .string name, .slice a n c]) ∧ w.alloc (.cells #[.string typ, .pointer g, .string name, .slice a n c] 41) = w' := by
  go_enter Try.func19, Try.ntmps19
  go_wp2
  exact bodyPost_ret (v := .agg #[.string typ, .pointer g, .string name, .slice a n c]) (by simp [results, Try.results19, go_sem]) rfl ⟨rfl, rfl⟩

theorem run_store_float {P : Program} (w : World) (a : Addr) (k : FloatKind) (n : Nat) (m : Mode) : (store a (.float k n) m).run P w = stored P w a (.float k n) m := run_store P w a _ m rfl
attribute [local go_sem] run_store_float

set_option maxHeartbeats 1000000 in
theorem goal_any (p : Addr) (f : Nat) (w : World) (hp : w.cell? p = some (.float .f64 f)) :
    Calls Try.prog 17 #[.pointer (some p)] w fun e w' => e = .returned (.pointer (some ⟨w.heap.size, 0, none⟩)) ∧ w.alloc (.cells #[.float .f64 f] 34) = w' := by
  go_enter Try.func17, Try.ntmps17
  go_wp2
  go_ret
  exact ⟨rfl, rfl⟩
theorem goal_nil (w : World) :
    Calls Try.prog 17 #[.pointer none] w fun e w' => e = .returned (.pointer none) ∧ w = w' := by
  go_enter Try.func17, Try.ntmps17
  go_wp2
  go_ret
  exact ⟨rfl, rfl⟩
end Go.Proofs.Qxb6601293a
