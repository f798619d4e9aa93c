import Derived.Test.Qxb6604696aStrs
import Derived.ProofKit
import Derived.SliceStrings
namespace Go.Proofs.Qxb6604696a
open Go.ChangeShapes Go.WideShapes Go.ChangeAt Go.RowKit
set_option linter.unusedVariables false

/-- A slice of texts that came in, as the walks are told of it. -/
theorem open_texts {H : Type} {enc : TypeId × Value → H} {W : World} {base : Nat} {held : Bool} {a : Option Addr} {n c fuel : Nat} {x : DataW H × List MemPlace}
    (h : DataW.trod enc Try.prog W base (fun _ => true) held fuel 23 [.slice a n c] = some x) (lt : ∀ p ∈ x.2, p.block < W.heap.size) :
    ∃ b o ss, Hid (List.length (α := ByteArray) ss = n) ∧ n ≤ maxLen ∧ Texts W a b o ss := by
  rcases open_strings Try.underlying23 Try.underlying9 Try.cells9 h with ⟨hcs, _⟩ | ⟨ad, l, c', ss, hcs, _, hl, hm, hz, hx, hcell, _⟩
  · simp at hcs
    obtain ⟨rfl, rfl, rfl⟩ := hcs
    exact ⟨0, 0, [], rfl, by simp [maxLen], fun h => absurd rfl h, fun j x hx => by simp at hx⟩
  · simp at hcs
    obtain ⟨rfl, rfl, rfl⟩ := hcs
    have hz' : ss.length = c := by simpa using hz
    have hln : (ss.take n).length = n := by rw [List.length_take]; omega
    obtain ⟨b, off, spot⟩ := ad
    by_cases h0 : n = 0
    · subst h0
      exact ⟨0, 0, [], rfl, by simp [maxLen], fun h => absurd rfl h, fun j x hx => by simp at hx⟩
    · have hc0 := hcell 0 (by omega)
      have hspot : spot = none := by simpa [Addr.add] using World.cell?_spot hc0
      subst hspot
      refine ⟨b, off, ss.take n, hln, by omega, fun _ => ⟨rfl, ?_⟩, fun j x hx' => ?_⟩
      · have : MemPlace.cell b off ∈ x.2 := by rw [hx]; exact MemPlace.mem_row.2 ⟨0, by omega, by simp⟩
        exact lt _ this
      · have hj : j < n := by have := (List.getElem?_eq_some_iff.1 hx').1; omega
        have hcj := hcell j (by omega)
        rw [List.getElem?_take_of_lt hj] at hx'
        simp only [add_plain, List.getD, hx', Option.getD_some] at hcj
        exact hcj
end Go.Proofs.Qxb6604696a
