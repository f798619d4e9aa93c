import Derived.Test.Qxb6604750aOpen
import Derived.Test.Qxb6604750aAnyClone2
namespace Go.Proofs.Qxb6604750a
open Go.ChangeShapes Go.WideShapes Go.ChangeAt Go.RowKit
set_option linter.unusedVariables false
set_option linter.unusedSimpArgs false

section
variable {H : Type} {enc : TypeId × Value → H} {W : World} {base : Nat} {held : Bool}

/-- A slice of branches that came in. -/
theorem open_branches {fuel : Nat} {a : Option Addr} {n c : Nat} {x : DataW H × List MemPlace} (h : DataW.trod enc Try.prog W base (fun _ => true) held fuel 56 [.slice a n c] = some x) (lt : ∀ p ∈ x.2, p.block < W.heap.size) :
    ∃ b o xs, Hid (List.length (α := Br) xs = n) ∧ n ≤ maxLen ∧ (a = none → n = 0) ∧ Brs W a b o xs ∧ Pays W xs := by
  rcases Deep.open_slice Try.underlying56 h with ⟨hcs, _⟩ | ⟨ad, len, cap, m, k, D, Pl, hcs, _, hl, hm, hmm, hx, hel⟩
  · simp at hcs
    obtain ⟨rfl, rfl, rfl⟩ := hcs
    exact ⟨0, 0, [], rfl, by simp [maxLen], fun _ => rfl, Brs.nil _ _ _ _, fun x hx => by simp at hx⟩
  · simp at hcs
    obtain ⟨rfl, rfl, rfl⟩ := hcs
    have hmc : m = c := by simpa using hmm
    subst hmc
    obtain ⟨b, off, spot⟩ := ad
    by_cases h0 : n = 0
    · subst h0
      exact ⟨0, 0, [], rfl, by simp [maxLen], fun _ => rfl, Brs.nil _ _ _ _, fun x hx => by simp at hx⟩
    · have each : ∀ i, i < n → ∃ y : Br, (W.cell? ((⟨b, off, spot⟩ : Addr).add (i * 11)) = some (.string y.f0)) ∧ (spot = none → BrAt W b (off + i * 11) y) ∧ ∃ pb po, Pay W y.pa y.pl pb po := by
        intro i hi
        obtain ⟨cs', h1, h2⟩ := hel i (by omega)
        rw [Try.cells35] at h1
        obtain ⟨_, hlen, hcell⟩ := World.cells?_some h1
        obtain ⟨y, pb, po, hy, hp⟩ := open_branch h2 (fun p hp => lt p (by
          rw [hx]
          simp only [List.mem_append, List.mem_flatMap, List.mem_range]
          exact Or.inr ⟨i, by omega, hp⟩))
        subst hy
        have e0 := hcell 0 (by omega)
        have e1 := hcell 1 (by omega)
        have e2 := hcell 2 (by omega)
        have e3 := hcell 3 (by omega)
        have e4 := hcell 4 (by omega)
        have e5 := hcell 5 (by omega)
        have e6 := hcell 6 (by omega)
        have e7 := hcell 7 (by omega)
        have e8 := hcell 8 (by omega)
        have e9 := hcell 9 (by omega)
        have e10 := hcell 10 (by omega)
        rw [Deep.add_add] at e0 e1 e2 e3 e4 e5 e6 e7 e8 e9 e10
        refine ⟨y, by simpa using e0, fun hs => ?_, pb, po, hp⟩
        subst hs
        simp only [add_plain] at e0 e1 e2 e3 e4 e5 e6 e7 e8 e9 e10
        exact ⟨by simpa using e0, by simpa [Nat.add_assoc] using e1, by simpa [Nat.add_assoc] using e2, by simpa [Nat.add_assoc] using e3, by simpa [Nat.add_assoc] using e4, by simpa [Nat.add_assoc] using e5, by simpa [Nat.add_assoc] using e6, by simpa [Nat.add_assoc] using e7, by simpa [Nat.add_assoc] using e8, by simpa [Nat.add_assoc] using e9, by simpa [Nat.add_assoc] using e10⟩
      obtain ⟨y0, c0, _⟩ := each 0 (by omega)
      have hspot : spot = none := by simpa [Addr.add] using World.cell?_spot c0
      subst hspot
      have hbl : b < W.heap.size := by
        have : MemPlace.cell b off ∈ x.2 := by
          rw [hx, Try.cells35]
          exact List.mem_append_left _ (MemPlace.mem_row.2 ⟨0, by omega, by simp⟩)
        exact lt _ this
      obtain ⟨q, hq⟩ := @Deep.choose_lt Br ⟨y0⟩ n (fun i y => BrAt W b (off + i * 11) y ∧ ∃ pb po, Pay W y.pa y.pl pb po) (fun i hi => by obtain ⟨y, _, h1, h2⟩ := each i hi; exact ⟨y, h1 rfl, h2⟩)
      refine ⟨b, off, (List.range n).map q, by simp [Hid], by omega, fun e => by simp at e, ⟨fun _ => ⟨rfl, hbl⟩, fun i y hy => ?_⟩, fun y hy => ?_⟩
      · have hi : i < n := by have := (List.getElem?_eq_some_iff.1 hy).1; simpa using this
        simp [hi] at hy
        rw [← hy]; exact (hq i hi).1
      · obtain ⟨i, hi, rfl⟩ := List.mem_map.1 hy
        exact (hq i (List.mem_range.1 hi)).2
end
end Go.Proofs.Qxb6604750a
