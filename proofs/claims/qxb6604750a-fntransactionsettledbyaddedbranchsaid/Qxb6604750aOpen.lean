import Derived.Test.Qxb6604750aBranchList
import Derived.ProofKit
import Derived.OpenShut
import Derived.Deep.Slices
namespace Go.Proofs.Qxb6604750a
open Go.ChangeShapes Go.WideShapes Go.ChangeAt Go.RowKit
set_option linter.unusedVariables false
set_option linter.unusedSimpArgs false

theorem Try.cells9 : Try.prog.cellsOf 9 = 1 := by kernel_rfl
theorem Try.cells33 : Try.prog.cellsOf 33 = 1 := by kernel_rfl
theorem Try.cells3 : Try.prog.cellsOf 3 = 1 := by kernel_rfl
theorem Try.cells4 : Try.prog.cellsOf 4 = 1 := by kernel_rfl
theorem Try.cells5 : Try.prog.cellsOf 5 = 1 := by kernel_rfl
theorem Try.cells35 : Try.prog.cellsOf 35 = 11 := by kernel_rfl

section
variable {H : Type} {enc : TypeId × Value → H} {W : World} {base : Nat} {held : Bool}

/-- A payload that came in. -/
theorem open_pay {fuel : Nat} {c : Value} {x : DataW H × List MemPlace} (h : DataW.trod enc Try.prog W base (fun _ => true) held fuel 33 [c] = some x) (lt : ∀ p ∈ x.2, p.block < W.heap.size) :
    ∃ pa pl pc pb po, c = .slice pa pl pc ∧ Pay W pa pl pb po := by
  rcases open_ints Try.underlying33 Try.underlying5 Try.cells5 h with ⟨hcs, _⟩ | ⟨ad, l, c', zs, hcs, _, hl, hm, hz, hx, hcell, _⟩
  · simp at hcs
    subst hcs
    exact ⟨none, 0, 0, 0, 0, rfl, fun _ => rfl, fun h => by omega, fun i hi => by omega⟩
  · simp at hcs
    subst hcs
    have hz' : zs.length = c' := by simpa using hz
    obtain ⟨b, off, spot⟩ := ad
    by_cases h0 : l = 0
    · subst h0
      exact ⟨_, 0, _, 0, 0, rfl, fun _ => rfl, fun h => by omega, fun i hi => by omega⟩
    · have hc0 := hcell 0 (by omega)
      have hspot : spot = none := by simpa [Addr.add] using World.cell?_spot hc0
      subst hspot
      refine ⟨_, l, _, b, off, rfl, fun e => by simp at e, fun _ => ⟨rfl, ?_⟩, fun i hi => ?_⟩
      · have : MemPlace.cell b off ∈ x.2 := by rw [hx]; exact MemPlace.mem_row.2 ⟨0, by omega, by simp⟩
        exact lt _ this
      · have := hcell i (by omega)
        rw [add_plain] at this
        exact ⟨_, this⟩

/-- A branch's eleven cells that came in. -/
theorem open_branch {fuel : Nat} {cs : List Value} {x : DataW H × List MemPlace} (h : DataW.trod enc Try.prog W base (fun _ => true) held fuel 35 cs = some x) (lt : ∀ p ∈ x.2, p.block < W.heap.size) :
    ∃ (y : Br) (pb po : Nat), cs = [.string y.f0, .string y.f1, .string y.f2, .slice y.pa y.pl y.pc, .string y.f4, .int .i64 y.f5, .string y.f6, .bool y.f7, .bool y.f8, .int .i64 y.f9, .string y.f10] ∧ Pay W y.pa y.pl pb po := by
  obtain ⟨xs, n, _, hx, hlen, hxl, hf⟩ := DataW.trod_struct Try.underlying35 h
  rw [Try.cells35] at hlen
  match cs, hlen with
  | [c0, c1, c2, c3, c4, c5, c6, c7, c8, c9, c10], _ =>
    match xs, hxl with
    | [x0, x1, x2, x3, x4, x5, x6, x7, x8, x9, x10], _ =>
      have g0 := hf 0 _ rfl
      have g1 := hf 1 _ rfl
      have g2 := hf 2 _ rfl
      have g3 := hf 3 _ rfl
      have g4 := hf 4 _ rfl
      have g5 := hf 5 _ rfl
      have g6 := hf 6 _ rfl
      have g7 := hf 7 _ rfl
      have g8 := hf 8 _ rfl
      have g9 := hf 9 _ rfl
      have g10 := hf 10 _ rfl
      simp [Try.cells9, Try.cells33, Try.cells3, Try.cells4] at g0 g1 g2 g3 g4 g5 g6 g7 g8 g9 g10
      obtain ⟨s0, e0, _, _⟩ := DataW.trod_string Try.underlying9 g0
      obtain ⟨s1, e1, _, _⟩ := DataW.trod_string Try.underlying9 g1
      obtain ⟨s2, e2, _, _⟩ := DataW.trod_string Try.underlying9 g2
      obtain ⟨s4, e4, _, _⟩ := DataW.trod_string Try.underlying9 g4
      obtain ⟨s5, e5, _, _⟩ := DataW.trod_int Try.underlying3 g5
      obtain ⟨s6, e6, _, _⟩ := DataW.trod_string Try.underlying9 g6
      obtain ⟨s7, e7, _⟩ := DataW.trod_bool Try.underlying4 g7
      obtain ⟨s8, e8, _⟩ := DataW.trod_bool Try.underlying4 g8
      obtain ⟨s9, e9, _, _⟩ := DataW.trod_int Try.underlying3 g9
      obtain ⟨s10, e10, _, _⟩ := DataW.trod_string Try.underlying9 g10
      obtain ⟨pa, pl, pc, pb, po, e3, hp⟩ := open_pay g3 (fun p hp => lt p (by rw [hx]; simp; exact Or.inr (Or.inr (Or.inr (Or.inl hp)))))
      simp at e0 e1 e2 e4 e5 e6 e7 e8 e9 e10
      subst e0 e1 e2 e3 e4 e5 e6 e7 e8 e9 e10
      exact ⟨⟨s0, s1, s2, pa, pl, pc, s4, s5, s6, s7, s8, s9, s10⟩, pb, po, rfl, hp⟩
end
end Go.Proofs.Qxb6604750a
