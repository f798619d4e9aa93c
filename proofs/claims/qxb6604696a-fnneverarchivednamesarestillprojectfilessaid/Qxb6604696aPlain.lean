namespace Go.Proofs.Qxb6604696a
/-! The plain law of the four names: no Go in sight. -/

/-- The four names of 'neverArchived', as bytes. -/
def four (l : List UInt8) : Bool :=
  l == [46, 105, 110, 99, 108, 117, 100, 101] || l == [46, 105, 103, 110, 111, 114, 101] || l == [98, 117, 105, 108, 100, 46, 115, 104] || l == [98, 117, 105, 108, 100, 46, 99, 109, 100]

theorem last_dot {a b c d : List UInt8} (h : a ++ 46 :: b = c ++ 46 :: d) (hb : 46 ∉ b) (hd : 46 ∉ d) : a = c ∧ b = d := by
  rcases List.append_eq_append_iff.1 h with ⟨x, h1, h2⟩ | ⟨x, h1, h2⟩
  · cases x with
    | nil => simp at h1 h2; exact ⟨h1.symm, h2⟩
    | cons y t => simp at h2; exact absurd (by rw [h2.2]; simp) hb
  · cases x with
    | nil => simp at h1 h2; exact ⟨h1, h2.symm⟩
    | cons y t => simp at h2; exact absurd (by rw [h2.2]; simp) hd

theorem four_none {l : List UInt8} (h : 46 ∉ l) : four l = false := by
  unfold four
  simp only [Bool.or_eq_false_iff, beq_eq_false_iff_ne, ne_eq]
  refine ⟨⟨⟨?_, ?_⟩, ?_⟩, ?_⟩ <;> (intro e; subst e; simp at h)

theorem four_split {l b x : List UInt8} (hl : l = b ++ 46 :: x) (hx : 46 ∉ x) :
    four l = ((b.isEmpty && (x == [105, 110, 99, 108, 117, 100, 101] || x == [105, 103, 110, 111, 114, 101])) || (b == [98, 117, 105, 108, 100] && (x == [115, 104] || x == [99, 109, 100]))) := by
  have key : ∀ c d : List UInt8, 46 ∉ d → ((l == c ++ 46 :: d) = (b == c && x == d)) := by
    intro c d hd
    rw [Bool.eq_iff_iff]
    simp only [beq_iff_eq, Bool.and_eq_true]
    constructor
    · intro e; rw [hl] at e; exact last_dot e hx hd
    · rintro ⟨rfl, rfl⟩; exact hl
  have k1 := key [] [105, 110, 99, 108, 117, 100, 101] (by simp)
  have k2 := key [] [105, 103, 110, 111, 114, 101] (by simp)
  have k3 := key [98, 117, 105, 108, 100] [115, 104] (by simp)
  have k4 := key [98, 117, 105, 108, 100] [99, 109, 100] (by simp)
  simp only [List.nil_append, List.cons_append] at k1 k2 k3 k4
  have e : (b == []) = b.isEmpty := by cases b <;> rfl
  unfold four
  rw [k1, k2, k3, k4, e]
  cases b.isEmpty <;> cases (b == [98, 117, 105, 108, 100]) <;> simp [Bool.or_assoc]

/-- What the shape says of a text cut at its last dot, in the walk's own tests. -/
theorem four_case (l b x : List UInt8) (hl : l = b ++ 46 :: x) (hx : 46 ∉ x) :
    (b.isEmpty = true → four l = (x == [105, 110, 99, 108, 117, 100, 101] || x == [105, 103, 110, 111, 114, 101])) ∧
    (b.isEmpty = false → (b == [98, 117, 105, 108, 100]) = true → four l = (x == [115, 104] || x == [99, 109, 100])) ∧
    (b.isEmpty = false → (b == [98, 117, 105, 108, 100]) = false → four l = false) := by
  rw [four_split hl hx]
  refine ⟨fun h => ?_, fun h h2 => ?_, fun h h2 => ?_⟩
  · have : b = [] := by simpa using h
    subst this; simp
  · rw [h, h2]; simp
  · rw [h, h2]; simp

theorem four_iff {l : List UInt8} (h : four l = true) : l = [46, 105, 110, 99, 108, 117, 100, 101] ∨ l = [46, 105, 103, 110, 111, 114, 101] ∨ l = [98, 117, 105, 108, 100, 46, 115, 104] ∨ l = [98, 117, 105, 108, 100, 46, 99, 109, 100] := by
  simpa [four, or_assoc] using h
end Go.Proofs.Qxb6604696a
