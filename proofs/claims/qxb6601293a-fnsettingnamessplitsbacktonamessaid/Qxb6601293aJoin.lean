import Derived.Test.Qxb6601293aNames
namespace Go.Proofs.Qxb6601293a
open Go.RowKit

/-- where the j-th name begins -/
def pos (S : Nat → ByteArray) : Nat → Nat
  | 0 => 0
  | j + 1 => pos S j + (S j).size + 2
def preL (sep : List UInt8) : List (List UInt8) → List UInt8
  | [] => []
  | x :: r => x ++ sep ++ preL sep r
theorem join_split (sep : List UInt8) : ∀ (j : Nat) (ns : List (List UInt8)), j < ns.length → Lib.join ns sep = preL sep (ns.take j) ++ Lib.join (ns.drop j) sep
  | 0, ns, _ => by simp [preL]
  | j + 1, [], h => by simp at h
  | j + 1, [x], h => by simp at h
  | j + 1, x :: y :: r, h => by
    have ih := join_split sep j (y :: r) (by simpa using h)
    rw [List.take_succ_cons, List.drop_succ_cons, preL, List.append_assoc, ← ih]
    simp [Lib.join]

theorem preL_len (S : Nat → ByteArray) : ∀ j, (preL [44, 32] ((namesL S j).map (·.data.toList))).length = pos S j
  | 0 => rfl
  | j + 1 => by
    have hap : ∀ (l : List (List UInt8)) (x : List UInt8), (preL [44, 32] (l ++ [x])).length = (preL [44, 32] l).length + x.length + 2 := by
      intro l x
      induction l with
      | nil => simp [preL]
      | cons y r ih => simp [preL, ih]; omega
    have hn : namesL S (j + 1) = namesL S j ++ [S j] := by simp [namesL, List.range_succ]
    rw [hn, List.map_append, List.map_cons, List.map_nil, hap, preL_len S j]
    rfl
theorem names_take (S : Nat → ByteArray) (len j : Nat) (h : j ≤ len) : (namesL S len).take j = namesL S j := by
  simp [namesL, ← List.map_take, List.take_range, Nat.min_eq_left h]
theorem names_get (S : Nat → ByteArray) (len j : Nat) (h : j < len) : (namesL S len)[j]'(by simpa [namesL] using h) = S j := by simp [namesL]
theorem names_drop (S : Nat → ByteArray) (len j : Nat) (h : j < len) : ∃ r, (namesL S len).drop j = S j :: r ∧ r = (namesL S len).drop (j + 1) := by
  have hl : j < (namesL S len).length := by simpa [namesL] using h
  refine ⟨_, ?_, rfl⟩
  rw [List.drop_eq_getElem_cons hl, names_get S len j h]

/-- the text, cut at the j-th name -/
theorem dec (S : Nat → ByteArray) (len j : Nat) (h : j < len) : ∃ A B, textL S len = A ++ ((S j).data.toList ++ B) ∧ A.length = pos S j ∧ (j + 1 < len → ∃ B', B = 44 :: 32 :: B') ∧ (len ≤ j + 1 → B = []) := by
  obtain ⟨r, hr, hr'⟩ := names_drop S len j h
  refine ⟨preL [44, 32] ((namesL S j).map (·.data.toList)), Lib.joinTail [44, 32] (r.map (·.data.toList)), ?_, preL_len S j, ?_, ?_⟩
  · unfold textL
    rw [join_split [44, 32] j _ (by simpa [namesL] using h), ← List.map_take, ← List.map_drop, names_take S len j (by omega), hr, List.map_cons, Lib.join_cons]
  · intro h1
    obtain ⟨r2, hr2, _⟩ := names_drop S len (j + 1) h1
    rw [hr', hr2]
    exact ⟨(S (j + 1)).data.toList ++ Lib.joinTail [44, 32] (r2.map (·.data.toList)), by simp [Lib.joinTail]⟩
  · intro h1
    have : r = [] := by rw [hr']; apply List.drop_of_length_le; simp [namesL]; omega
    rw [this]; rfl

/-- what splitAtCommaSpace meets in the text -/
def Facts (X : ByteArray) (S : Nat → ByteArray) (len : Nat) : Prop :=
  (∀ j, j < len → pos S j + (S j).size ≤ X.size ∧ X.extract (pos S j) (pos S j + (S j).size) = S j ∧ (∀ q (_ : q < (S j).size) (h' : pos S j + q < X.size), (X[pos S j + q]'h').toNat ≠ 44) ∧
    (j + 1 < len → pos S j + (S j).size + 1 < X.size ∧ (∀ h, (X[pos S j + (S j).size]'h).toNat = 44) ∧ (∀ h, (X[pos S j + (S j).size + 1]'h).toNat = 32)) ∧
    (len ≤ j + 1 → X.size = pos S j + (S j).size))
theorem facts (S : Nat → ByteArray) (len : Nat) (hn : ∀ j, j < len → NoComma (S j)) : Facts ⟨(textL S len).toArray⟩ S len := by
  intro j hj
  obtain ⟨A, B, e, hA, hB1, hB2⟩ := dec S len j hj
  have hsz : (⟨(textL S len).toArray⟩ : ByteArray).size = pos S j + (S j).size + B.length := by
    show (textL S len).length = _
    rw [e, List.length_append, List.length_append, hA]
    show pos S j + ((S j).size + B.length) = _
    omega
  have hget : ∀ (i : Nat) (h : i < (⟨(textL S len).toArray⟩ : ByteArray).size), (⟨(textL S len).toArray⟩ : ByteArray)[i] = (A ++ ((S j).data.toList ++ B))[i]'(by rw [← e]; exact h) := by
    intro i h
    show (textL S len).toArray[i] = _
    simp only [List.getElem_toArray, e]
  have hsl : (S j).data.toList.length = (S j).size := rfl
  refine ⟨by omega, ?_, ?_, ?_, ?_⟩
  · apply ByteArray.ext
    apply Array.toList_inj.1
    simp only [ByteArray.data_extract, Array.toList_extract, List.extract_eq_take_drop]
    rw [e, ← hA, List.drop_left]
    have : A.length + (S j).size - A.length = (S j).data.toList.length := by omega
    rw [this, List.take_left]
  · intro q hq h'
    rw [hget]
    rw [List.getElem_append_right (by omega), List.getElem_append_left (by omega)]
    have := hn j hj q hq
    have e2 : (S j).data.toList[pos S j + q - A.length]'(by omega) = (S j)[q] := by
      have : pos S j + q - A.length = q := by omega
      simp only [this]; rfl
    rw [e2]; exact this
  · intro h1
    obtain ⟨B', rfl⟩ := hB1 h1
    refine ⟨by simp only [List.length_cons] at hsz; omega, ?_, ?_⟩
    · intro h
      rw [hget, List.getElem_append_right (by omega), List.getElem_append_right (by omega)]
      have : pos S j + (S j).size - A.length - (S j).data.toList.length = 0 := by omega
      simp only [this]; rfl
    · intro h
      rw [hget, List.getElem_append_right (by omega), List.getElem_append_right (by omega)]
      have : pos S j + (S j).size + 1 - A.length - (S j).data.toList.length = 1 := by omega
      simp only [this]; rfl
  · intro h1
    rw [hB2 h1] at hsz
    simpa using hsz
theorem text_len (S : Nat → ByteArray) (len : Nat) (h : 0 < len) : (textL S len).length ≤ tot S len + 2 * len := by
  have hp : ∀ j, pos S j = tot S j + 2 * j := by
    intro j
    induction j with
    | zero => rfl
    | succ j ih => simp only [pos, tot, ih]; omega
  obtain ⟨A, B, e, hA, _, hB⟩ := dec S len (len - 1) (by omega)
  rw [e, hB (by omega), List.length_append, List.length_append, hA, hp]
  obtain ⟨m, rfl⟩ : ∃ m, len = m + 1 := ⟨len - 1, by omega⟩
  show tot S (m + 1 - 1) + 2 * (m + 1 - 1) + ((S (m + 1 - 1)).size + 0) ≤ tot S m + (S m).size + 2 * (m + 1)
  simp; omega
end Go.Proofs.Qxb6601293a
