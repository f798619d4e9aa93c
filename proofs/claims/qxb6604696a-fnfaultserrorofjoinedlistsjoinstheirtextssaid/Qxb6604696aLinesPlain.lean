import Derived.Test.Qxb6604696aFaults
import Derived.Lib.Strings
namespace Go.Proofs.Qxb6604696a
set_option linter.unusedSimpArgs false
set_option linter.unusedVariables false
/-! The plain law of the lines: where message k begins in the joined text. No walk here. -/

/-- Where the k-th message's own bytes end: all bytes up to it, newlines counted. -/
def pos (ss : List ByteArray) (k : Nat) : Nat := (Lib.join ((ss.take k).map (·.data.toList)) [10]).length

theorem pos_zero (ss : List ByteArray) : pos ss 0 = 0 := rfl

theorem join_snoc (xs : List (List UInt8)) (y : List UInt8) (h : xs ≠ []) : Lib.join (xs ++ [y]) [10] = Lib.join xs [10] ++ 10 :: y := by
  cases xs with
  | nil => exact absurd rfl h
  | cons x r =>
    rw [List.cons_append, Lib.join_cons, Lib.join_cons]
    simp [Lib.joinTail]

theorem join_app (xs ys : List (List UInt8)) (h : xs ≠ []) (h2 : ys ≠ []) : Lib.join (xs ++ ys) [10] = Lib.join xs [10] ++ 10 :: Lib.join ys [10] := by
  cases xs with
  | nil => exact absurd rfl h
  | cons x r =>
    cases ys with
    | nil => exact absurd rfl h2
    | cons y t =>
      rw [List.cons_append, Lib.join_cons, Lib.join_cons, Lib.join_cons]
      simp [Lib.joinTail]

/-- The text from the k-th message on. -/
theorem split_at (ss : List ByteArray) (k : Nat) (hk : k ≤ ss.length) : ∃ tl, Lib.join (ss.map (·.data.toList)) [10] = Lib.join ((ss.take k).map (·.data.toList)) [10] ++ tl := by
  by_cases h1 : k = 0
  · subst h1; exact ⟨_, by simp [Lib.join_nil]; rfl⟩
  by_cases h2 : k = ss.length
  · subst h2; exact ⟨[], by simp⟩
  have e : ss.map (·.data.toList) = (ss.take k).map (·.data.toList) ++ (ss.drop k).map (·.data.toList) := by rw [← List.map_append, List.take_append_drop]
  rw [e, join_app _ _ (by intro h; have := congrArg List.length h; simp only [List.length_map, List.length_take, List.length_drop, List.length_nil] at this; omega) (by intro h; have := congrArg List.length h; simp only [List.length_map, List.length_take, List.length_drop, List.length_nil] at this; omega)]
  exact ⟨_, rfl⟩

theorem text_data (ss : List ByteArray) : (text ss).data.toList = Lib.join (ss.map (·.data.toList)) [10] := by simp [text]
theorem text_size (ss : List ByteArray) : (text ss).size = (Lib.join (ss.map (·.data.toList)) [10]).length := by rw [Lib.size_eq, text_data]

theorem pos_full (ss : List ByteArray) : pos ss ss.length = (text ss).size := by rw [text_size]; simp [pos]

theorem pos_le (ss : List ByteArray) (k : Nat) (hk : k ≤ ss.length) : pos ss k ≤ (text ss).size := by
  obtain ⟨tl, h⟩ := split_at ss k hk
  rw [text_size, h]; simp [pos]

theorem take_data (ss : List ByteArray) (k : Nat) (s : ByteArray) (hs : ss[k]? = some s) : (ss.take (k + 1)).map (·.data.toList) = (ss.take k).map (·.data.toList) ++ [s.data.toList] := by
  rw [take_snoc hs]; simp

/-- The first message. -/
theorem first_in (ss : List ByteArray) (s : ByteArray) (hs : ss[0]? = some s) :
    pos ss 1 = s.size ∧ s.size ≤ (text ss).size ∧ ((text ss).extract 0 s.size).toList = s.toList := by
  have h1 : Lib.join ((ss.take 1).map (·.data.toList)) [10] = s.data.toList := by rw [take_data ss 0 s hs]; simp [Lib.join_one]
  obtain ⟨tl, h⟩ := split_at ss 1 (by have := (List.getElem?_eq_some_iff.1 hs).1; omega)
  refine ⟨by rw [pos, h1, ← Lib.size_eq], ?_, ?_⟩
  · rw [text_size, h, h1, Lib.size_eq]; simp
  · rw [Lib.extract_toList, text_data, h, h1, Lib.toList_data, Lib.size_eq]; simp

/-- A later message: its newline, its bytes. -/
theorem later_in (ss : List ByteArray) (k : Nat) (s : ByteArray) (hk : 0 < k) (hs : ss[k]? = some s) :
    pos ss (k + 1) = pos ss k + 1 + s.size ∧ pos ss k + 1 + s.size ≤ (text ss).size ∧ (∀ h : pos ss k < (text ss).size, (text ss)[pos ss k].toNat = 10) ∧ ((text ss).extract (pos ss k + 1) (pos ss k + 1 + s.size)).toList = s.toList := by
  have hkl : k < ss.length := (List.getElem?_eq_some_iff.1 hs).1
  have h1 : Lib.join ((ss.take (k + 1)).map (·.data.toList)) [10] = Lib.join ((ss.take k).map (·.data.toList)) [10] ++ 10 :: s.data.toList := by
    rw [take_data ss k s hs, join_snoc _ _ (by intro h; have := congrArg List.length h; simp only [List.length_map, List.length_take, List.length_drop, List.length_nil] at this; omega)]
  obtain ⟨tl, h⟩ := split_at ss (k + 1) (by omega)
  rw [h1] at h
  have hp : pos ss (k + 1) = pos ss k + 1 + s.size := by rw [pos, h1, pos, Lib.size_eq]; simp; omega
  refine ⟨hp, by rw [← hp]; exact pos_le ss (k + 1) (by omega), fun hlt => ?_, ?_⟩
  · have e : (text ss).data.toList[pos ss k]? = some 10 := by rw [text_data, h, pos]; simp
    have e2 : (text ss)[pos ss k] = 10 := by
      have : (text ss).data.toList[pos ss k]? = some (text ss)[pos ss k] := by
        rw [List.getElem?_eq_getElem (by rw [← Lib.size_eq]; exact hlt)]; simp [ByteArray.getElem_eq_getElem_data]
      rw [e] at this
      exact (Option.some.inj this).symm
    rw [e2]; rfl
  · rw [Lib.extract_toList, text_data, h, Lib.toList_data]
    have e : pos ss k + 1 + s.size - (pos ss k + 1) = s.data.toList.length := by rw [← Lib.size_eq]; omega
    rw [e]
    have e2 : (Lib.join ((ss.take k).map (·.data.toList)) [10] ++ 10 :: s.data.toList ++ tl) = (Lib.join ((ss.take k).map (·.data.toList)) [10] ++ [10]) ++ (s.data.toList ++ tl) := by simp
    rw [e2, List.drop_left' (by simp [pos])]
    simp
end Go.Proofs.Qxb6604696a
