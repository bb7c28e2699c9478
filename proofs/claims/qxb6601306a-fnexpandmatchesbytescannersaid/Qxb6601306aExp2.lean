import Derived.Test.Qxb6601306aExp1
namespace Go.Proofs.Qxb6601306a
open Go.RowKit

/-- what is told of a slice of ints that came in: where it has an element, it leads to a plain row -/
def IsInts (w : World) (a : Option Addr) (len : Nat) (Z : Nat → Int) : Prop :=
  len = 0 ∨ ∃ b off, a = some ⟨b, off, none⟩ ∧ ∀ i, i < len → w.cell? ⟨b, off + i, none⟩ = some (.int .i64 (Z i))
/-- the pairs of groups 0 to 9 are those of a match in a text of n bytes -/
def Valid (n : Nat) (Z : Nat → Int) (len : Nat) : Prop := ∀ k, k < 10 → 2 * k + 1 < len → 0 ≤ Z (2 * k) → Z (2 * k) ≤ Z (2 * k + 1) ∧ Z (2 * k + 1) ≤ n
def AnsValid (n : Nat) (Z : Nat → Int) (len : Nat) (e : Ending) : Prop := ∃ r, e = .returned (.bool r) ∧ (r = true → Valid n Z len)
theorem ansValid_f (n : Nat) (Z : Nat → Int) (len : Nat) : AnsValid n Z len (.returned (.bool false)) := ⟨false, rfl, fun h => by cases h⟩
theorem ansValid_t {n : Nat} {Z : Nat → Int} {len : Nat} (h : Valid n Z len) : AnsValid n Z len (.returned (.bool true)) := ⟨true, rfl, fun _ => h⟩

set_option maxHeartbeats 1000000 in
theorem valid_row (s : ByteArray) (b off len cap : Nat) (Z : Nat → Int) (w : World) (_hs : s.size ≤ 1048576) (_hl : len ≤ 1048576)
    (hc : ∀ i, i < len → w.cell? ⟨b, off + i, none⟩ = some (.int .i64 (Z i))) :
    Calls Try.prog 20 #[.string s, .slice (some ⟨b, off, none⟩) len cap] w fun e w' => AnsValid s.size Z len e ∧ w = w' := by
  go_enter Try.func20, Try.ntmps20
  go_wp2
  go_loop [4, 5, 6, 7] (fun _ i _ _ => ∃ k : Nat, k ≤ 10 ∧ i = .int .i64 k ∧ Hid (∀ j, j < k → 2 * j + 1 < len → 0 ≤ Z (2 * j) → Z (2 * j) ≤ Z (2 * j + 1) ∧ Z (2 * j + 1) ≤ s.size)) (fun _ i _ _ => 10 - (intOf i).toNat)
  case atStart => exact ⟨0, by omega, rfl, fun j h => by omega⟩
  case round =>
    obtain ⟨k, hk, rfl, HJ⟩ := hrel
    by_cases hlt : k < 10
    · by_cases hm : 2 * k + 1 < len
      · have e0 : w.cell? ⟨b, off + 2 * k, none⟩ = some (.int .i64 (Z (2 * k))) := hc (2 * k) (by omega)
        have e1 : w.cell? ⟨b, off + (2 * k + 1), none⟩ = some (.int .i64 (Z (2 * k + 1))) := hc (2 * k + 1) hm
        obtain ⟨x, hx⟩ : ∃ x, x = Z (2 * k) := ⟨_, rfl⟩
        obtain ⟨y, hy⟩ : ∃ y, y = Z (2 * k + 1) := ⟨_, rfl⟩
        rw [← hx] at e0
        rw [← hy] at e1
        have HX := hide (And.intro hx hy)
        clear hx hy hc
        have stepOk : (0 ≤ x → x ≤ y ∧ y ≤ s.size) → ∀ j, j < k + 1 → 2 * j + 1 < len → 0 ≤ Z (2 * j) → Z (2 * j) ≤ Z (2 * j + 1) ∧ Z (2 * j + 1) ≤ s.size := by
          intro h j hj hjm h0
          by_cases e : j = k
          · subst e
            obtain ⟨ex, ey⟩ := HX.out
            rw [← ex, ← ey]; rw [← ex] at h0; exact h h0
          · exact HJ.out j (by omega) hjm h0
        have HS := hide stepOk
        clear stepOk
        by_cases h1 : 0 ≤ x
        · by_cases h2 : y < x
          · go_wp2
            go_ret
            exact ⟨ansValid_f _ _ _, rfl⟩
          · by_cases h3 : (s.size : Int) < y
            · go_wp2
              go_ret
              exact ⟨ansValid_f _ _ _, rfl⟩
            · go_wp2
              go_round
              case rel => exact ⟨k + 1, by omega, by go_num, HS.out (fun _ => by omega)⟩
              case measure => simp [intOf]; omega
        · go_wp2
          go_round
          case rel => exact ⟨k + 1, by omega, by go_num, HS.out (fun h => absurd h (by omega))⟩
          case measure => simp [intOf]; omega
      · go_wp2
        go_ret
        exact ⟨ansValid_t (fun j h1 h2 h3 => HJ.out j (by omega) h2 h3), rfl⟩
    · go_wp2
      go_ret
      exact ⟨ansValid_t (fun j h1 h2 h3 => HJ.out j (by omega) h2 h3), rfl⟩

set_option maxHeartbeats 1000000 in
theorem valid_none (s : ByteArray) (a : Option Addr) (cap : Nat) (Z : Nat → Int) (w : World) :
    Calls Try.prog 20 #[.string s, .slice a 0 cap] w fun e w' => AnsValid s.size Z 0 e ∧ w = w' := by
  go_enter Try.func20, Try.ntmps20
  go_wp2
  go_loop [4, 5, 6, 7] (fun _ i _ _ => i = .int .i64 0) (fun _ i _ _ => 0)
  case atStart => rfl
  case round =>
    subst hrel
    go_wp2
    go_ret
    exact ⟨ansValid_t (fun j h1 h2 h3 => by omega), rfl⟩

theorem valid_any (s : ByteArray) (a : Option Addr) (len cap : Nat) (Z : Nat → Int) (w : World) (hs : s.size ≤ 1048576) (hl : len ≤ 1048576) (h : IsInts w a len Z) :
    Calls Try.prog 20 #[.string s, .slice a len cap] w fun e w' => AnsValid s.size Z len e ∧ w = w' := by
  rcases h with rfl | ⟨b, off, rfl, hc⟩
  · exact valid_none s a cap Z w
  · exact valid_row s b off len cap Z w hs hl hc

theorem info3 : (Try.prog.info? 3).map (fun i => (i.zero, i.size, i.bytes)) = some (some (.int .i64 0), 1, 8) := by kernel_rfl
/-- an answer that is a slice of the ints Z -/
def AnsInts (Z : Nat → Int) (len : Nat) (e : Ending) (w' : World) : Prop := ∃ a cap, e = .returned (.slice a len cap) ∧ IsInts w' a len Z
def rowZ (Z : Nat → Int) (k j : Nat) : Value := if j < k then .int .i64 (Z j) else .int .i64 0
theorem rowZ_set {w : World} {b n : Nat} {Z : Nat → Int} {k : Nat} (h : w.rowIs b 3 n (rowZ Z k)) : (w.setCell ⟨b, k, none⟩ (.int .i64 (Z k))).rowIs b 3 n (rowZ Z (k + 1)) := by
  refine (h.set k _).congr fun j _ => ?_
  unfold rowZ
  by_cases e : j = k
  · subst e; rw [if_pos rfl, if_pos (by omega)]
  · rw [if_neg e]
    by_cases e2 : j < k
    · rw [if_pos e2, if_pos (by omega)]
    · rw [if_neg e2, if_neg (by omega)]

set_option maxHeartbeats 1000000 in
theorem clone_row (b off len cap : Nat) (Z : Nat → Int) (w : World) (hl : len ≤ 1048576) (hb : b < w.heap.size)
    (hc : ∀ i, i < len → w.cell? ⟨b, off + i, none⟩ = some (.int .i64 (Z i))) :
    Calls Try.prog 23 #[.slice (some ⟨b, off, none⟩) len cap] w fun e w' => AnsInts Z len e w' ∧ Below w.heap.size w w' := by
  have hnil := Lib.run_eql_slice_nil (P := Try.prog) w 30 3 (some ⟨b, off, none⟩) len cap 0 0 Try.underlying30
  have hmk := run_make_row' (P := Try.prog) 30 3 (.int .i64 0) 8 Try.underlying30 info3 rfl .i64 .i64 len (by omega) (by omega)
  go_enter Try.func23, Try.ntmps23
  go_wp2
  go_loopw [4] (fun i wr => ∃ (k : Nat), k ≤ len ∧ i = .int .i64 k ∧ wr.rowIs w.heap.size 3 len (rowZ Z k) ∧ Below w.heap.size w wr) (fun i _ => len - (intOf i).toNat)
  case atStart => exact ⟨0, by omega, rfl, (World.rowIs_made w (.int .i64 0) len 3).congr (fun i _ => by simp [rowZ]), (Below.refl _ w).alloc (Nat.le_refl _) _⟩
  case round =>
    obtain ⟨k, hk, rfl, hrow, hbl⟩ := hrel
    by_cases hlt : k < len
    · have hck : wr.cell? ⟨b, off + k, none⟩ = some (.int .i64 (Z k)) := by rw [hbl.cell (p := ⟨b, off + k, none⟩) hb]; exact hc k hlt
      have hcr : wr.cell? ⟨w.heap.size, k, none⟩ = some (rowZ Z k k) := hrow.cell hlt
      have hf : wr.frozen? ⟨w.heap.size, k, none⟩ = false := hrow.frozen k
      have hz : w.heap.size < wr.heap.size := hrow.lt
      have HR := hide hrow
      clear hrow hc hmk hnil
      go_wp2
      go_roundw
      case rel => exact ⟨k + 1, by omega, by go_num, rowZ_set HR.out, hbl.setCell (p := ⟨w.heap.size, k, none⟩) (Nat.le_refl _) _⟩
      case measure => simp [intOf]; omega
    · obtain rfl : k = len := by omega
      have hi : IsInts wr (some ⟨w.heap.size, 0, none⟩) k Z := .inr ⟨_, _, rfl, fun i hi => by rw [Nat.zero_add, hrow.cell hi]; simp [rowZ, hi]⟩
      have HI := hide hi
      clear hi hrow
      go_wp2
      go_ret
      exact ⟨⟨_, _, rfl, HI.out⟩, hbl⟩

set_option maxHeartbeats 1000000 in
theorem clone_none (a : Option Addr) (cap : Nat) (Z : Nat → Int) (w : World) :
    Calls Try.prog 23 #[.slice a 0 cap] w fun e w' => AnsInts Z 0 e w' ∧ Below w.heap.size w w' := by
  cases a with
  | none =>
    have hnil := Lib.run_eql_slice_nil (P := Try.prog) w 30 3 none 0 cap 0 0 Try.underlying30
    go_enter Try.func23, Try.ntmps23
    go_wp2
    go_ret
    exact ⟨⟨_, _, rfl, .inl rfl⟩, Below.refl _ _⟩
  | some x =>
    have hnil := Lib.run_eql_slice_nil (P := Try.prog) w 30 3 (some x) 0 cap 0 0 Try.underlying30
    have hmk : ∀ W : World, (Instr.makeSlice 30 (.int .i64 0) (.int .i64 0)).run Try.prog W = .ok (.slice (some ⟨W.heap.size, 0, none⟩) 0 0) (W.alloc (.cells (madeCells #[.int .i64 0] 0) 3)) := fun W => run_make_row' (P := Try.prog) 30 3 (.int .i64 0) 8 Try.underlying30 info3 rfl .i64 .i64 0 (by omega) (by omega) W
    go_enter Try.func23, Try.ntmps23
    go_wp2
    go_loopw [4] (fun i wr => i = .int .i64 0 ∧ Below w.heap.size w wr) (fun i _ => 0)
    case atStart => exact ⟨rfl, (Below.refl _ w).alloc (Nat.le_refl _) _⟩
    case round =>
      obtain ⟨rfl, hbl⟩ := hrel
      go_wp2
      go_ret
      exact ⟨⟨_, _, rfl, .inl rfl⟩, hbl⟩

theorem clone_any (a : Option Addr) (len cap : Nat) (Z : Nat → Int) (w : World) (hl : len ≤ 1048576) (hs : IsInts w a len Z) :
    Calls Try.prog 23 #[.slice a len cap] w fun e w' => AnsInts Z len e w' ∧ Below w.heap.size w w' := by
  by_cases h0 : len = 0
  · subst h0; exact clone_none a cap Z w
  · rcases hs with h | ⟨b, off, rfl, hc⟩
    · exact absurd h h0
    · have hb : b < w.heap.size := by
        have h1 := hc 0 (by omega)
        rcases Nat.lt_or_ge b w.heap.size with h' | h'
        · exact h'
        · simp [World.cell?, Array.getElem?_eq_none h'] at h1
      exact clone_row b off len cap Z w hl hb hc
end Go.Proofs.Qxb6601306a
