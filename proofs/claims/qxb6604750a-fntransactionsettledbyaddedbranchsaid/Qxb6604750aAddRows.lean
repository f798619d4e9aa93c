import Derived.Test.Qxb6604750aAnyMain
import Derived.Test.Qxb6604750aAddSizes
namespace Go.Proofs.Qxb6604750a
open Go.RowKit
set_option linter.unusedSimpArgs false
set_option linter.unusedVariables false

/-- A row of N branches at block B: of place i it is known that D i lies there. -/
structure Row (B N : Nat) (D : Nat → Option Br) (w : World) : Prop where
  row : ∃ f, w.rowIs B 43 (N * 11) f
  done : ∀ i y, D i = some y → BrAt w B (i * 11) y

theorem Row.new (w : World) (fr : Array Value) (N : Nat) (h : fr.size = N * 11) : Row w.heap.size N (fun _ => none) (w.alloc (.cells fr 43)) where
  row := by rw [← h]; exact row_new w fr 43
  done := fun i y hy => by simp at hy

theorem Row.lt {B N : Nat} {D : Nat → Option Br} {w : World} (h : Row B N D w) : B < w.heap.size := by
  obtain ⟨f, hf⟩ := h.row
  exact hf.lt

theorem Row.same {B N : Nat} {D : Nat → Option Br} {w w' : World} (h : Row B N D w) (e : w'.heap[B]? = w.heap[B]?) : Row B N D w' where
  row := by obtain ⟨f, hf⟩ := h.row; exact ⟨f, hf.of_block e⟩
  done := fun i y hy => (h.done i y hy).same fun j => World.cell?_of_block e

theorem Row.weak {B N : Nat} {D D' : Nat → Option Br} {w : World} (h : Row B N D w) (e : ∀ i y, D' i = some y → D i = some y) : Row B N D' w where
  row := h.row
  done := fun i y hy => h.done i y (e i y hy)

theorem Row.put {B N k : Nat} {D : Nat → Option Br} {w : World} (h : Row B N D w) (hk : k < N) (x : Br) : Row B N (fun i => if i = k then some x else D i) (put11 w B (k * 11) x) := by
  obtain ⟨f, hf⟩ := h.row
  obtain ⟨f', hf', hx⟩ := put11_row (o := k * 11) (x := x) hf
  refine ⟨⟨f', hf'⟩, fun i y hy => ?_⟩
  by_cases e : i = k
  · subst e
    simp at hy; subst hy
    exact hx (by omega)
  · rw [if_neg e] at hy
    exact put11_other (h.done i y hy) (by right; omega)

theorem Row.other {B N B' : Nat} {D : Nat → Option Br} {w : World} (h : Row B N D w) (hne : B ≠ B') (o : Nat) (x : Br) : Row B N D (put11 w B' o x) := h.same (put11_block w B' o x B hne)

theorem Row.cells {B N k : Nat} {D : Nat → Option Br} {w : World} (h : Row B N D w) (hk : k < N) :
    ∃ f : Nat → Value, w.cell? ⟨B, k * 11, none⟩ = some (f 0) ∧ w.cell? ⟨B, k * 11 + 1, none⟩ = some (f 1) ∧ w.cell? ⟨B, k * 11 + 2, none⟩ = some (f 2) ∧ w.cell? ⟨B, k * 11 + 3, none⟩ = some (f 3) ∧ w.cell? ⟨B, k * 11 + 4, none⟩ = some (f 4) ∧ w.cell? ⟨B, k * 11 + 5, none⟩ = some (f 5) ∧
      w.cell? ⟨B, k * 11 + 6, none⟩ = some (f 6) ∧ w.cell? ⟨B, k * 11 + 7, none⟩ = some (f 7) ∧ w.cell? ⟨B, k * 11 + 8, none⟩ = some (f 8) ∧ w.cell? ⟨B, k * 11 + 9, none⟩ = some (f 9) ∧ w.cell? ⟨B, k * 11 + 10, none⟩ = some (f 10) ∧ ∀ i, w.frozen? ⟨B, i, none⟩ = false := by
  obtain ⟨f, hf⟩ := h.row
  exact ⟨fun j => f (k * 11 + j), hf.cell (by omega), hf.cell (by omega), hf.cell (by omega), hf.cell (by omega), hf.cell (by omega), hf.cell (by omega), hf.cell (by omega), hf.cell (by omega), hf.cell (by omega), hf.cell (by omega), hf.cell (by omega), hf.frozen⟩

theorem Row.brs {B N : Nat} {D : Nat → Option Br} {w : World} (h : Row B N D w) {zs : List Br} (e : ∀ i z, zs[i]? = some z → D i = some z) : Brs w (some ⟨B, 0, none⟩) B 0 zs where
  addr := fun _ => ⟨rfl, h.lt⟩
  cells := fun i z hz => by rw [Nat.zero_add]; exact h.done i z (e i z hz)

/-- The three longer lists under way: k of the n old branches stand in each, in the third one place on. -/
structure Trip (W0 : World) (L1 L2 L3 n : Nat) (ys : List Br) (k : Nat) (wr : World) : Prop where
  below : Below W0.heap.size W0 wr
  l1 : L1 = W0.heap.size
  l2 : L1 < L2
  l3 : L2 < L3
  r1 : Row L1 (n + 1) (fun i => if i < k then ys[i]? else none) wr
  r2 : Row L2 (n + 1) (fun i => if i < k then ys[i]? else none) wr
  r3 : Row L3 (n + 1) (fun i => if 0 < i ∧ i < k + 1 then ys[i - 1]? else none) wr

theorem Trip.start (W0 : World) (fr : Array Value) (n : Nat) (ys : List Br) (h : fr.size = (n + 1) * 11) :
    Trip W0 W0.heap.size (W0.heap.size + 1) (W0.heap.size + 2) n ys 0 (((W0.alloc (.cells fr 43)).alloc (.cells fr 43)).alloc (.cells fr 43)) where
  below := (((Below.refl _ _).alloc (Nat.le_refl _) _).alloc (by simp) _).alloc (by simp; omega) _
  l1 := rfl
  l2 := by omega
  l3 := by omega
  r1 := (((Row.new W0 fr (n + 1) h).same (Below.heap_alloc _ _ _ (by simp))).same (Below.heap_alloc _ _ _ (by simp; omega))).weak fun i y hy => by simp at hy
  r2 := by
    have := (Row.new (W0.alloc (.cells fr 43)) fr (n + 1) h).same (w' := ((W0.alloc (.cells fr 43)).alloc (.cells fr 43)).alloc (.cells fr 43)) (Below.heap_alloc _ _ _ (by simp))
    rw [World.size_alloc] at this
    exact this.weak fun i y hy => by simp at hy
  r3 := by
    have := Row.new ((W0.alloc (.cells fr 43)).alloc (.cells fr 43)) fr (n + 1) h
    rw [World.size_alloc, World.size_alloc] at this
    exact this.weak fun i y hy => by
      by_cases e : 0 < i ∧ i < 0 + 1
      · omega
      · rw [if_neg e] at hy; simp at hy

theorem Trip.step {W0 : World} {L1 L2 L3 n k : Nat} {ys : List Br} {wr : World} (h : Trip W0 L1 L2 L3 n ys k wr) (hk : k < n) {y : Br} (hy : ys[k]? = some y) :
    Trip W0 L1 L2 L3 n ys (k + 1) (put11 (put11 (put11 wr L1 (k * 11) y) L2 (k * 11) y) L3 ((k + 1) * 11) y) where
  below := put11_below (put11_below (put11_below h.below (by have := h.l1; omega) _ _) (by have := h.l1; have := h.l2; omega) _ _) (by have := h.l1; have := h.l2; have := h.l3; omega) _ _
  l1 := h.l1
  l2 := h.l2
  l3 := h.l3
  r1 := (((h.r1.put (by omega) y).other (by have := h.l2; omega) _ _).other (by have := h.l2; have := h.l3; omega) _ _).weak fun i z hz => by
    by_cases e : i = k
    · subst e; simp [hy] at hz; simp [hz]
    · simp only [if_neg e]
      by_cases e2 : i < k
      · rw [if_pos e2]; rw [if_pos (by omega)] at hz; exact hz
      · rw [if_neg (by omega)] at hz; simp at hz
  r2 := (((h.r2.other (by have := h.l2; omega) _ _).put (by omega) y).other (by have := h.l3; omega) _ _).weak fun i z hz => by
    by_cases e : i = k
    · subst e; simp [hy] at hz; simp [hz]
    · simp only [if_neg e]
      by_cases e2 : i < k
      · rw [if_pos e2]; rw [if_pos (by omega)] at hz; exact hz
      · rw [if_neg (by omega)] at hz; simp at hz
  r3 := (((h.r3.other (by have := h.l2; have := h.l3; omega) _ _).other (by have := h.l3; omega) _ _).put (by omega) y).weak fun i z hz => by
    by_cases e : i = k + 1
    · subst e; simp [hy] at hz; simp [hz]
    · simp only [if_neg e]
      by_cases e2 : 0 < i ∧ i < k + 1
      · rw [if_pos e2]; rw [if_pos (by omega)] at hz; exact hz
      · rw [if_neg (by omega)] at hz; simp at hz

/-- The lists' last places filled: what each of the three holds. -/
theorem Trip.fin {W0 : World} {L1 L2 L3 n : Nat} {ys : List Br} {wr : World} (h : Trip W0 L1 L2 L3 n ys n wr) (hl : ys.length = n) (z0 z1 : Br) :
    Below W0.heap.size W0 (put11 (put11 (put11 wr L1 (n * 11) z0) L2 (n * 11) z1) L3 0 z1) ∧
    Brs (put11 (put11 (put11 wr L1 (n * 11) z0) L2 (n * 11) z1) L3 0 z1) (some ⟨L1, 0, none⟩) L1 0 (ys ++ [z0]) ∧
    Brs (put11 (put11 (put11 wr L1 (n * 11) z0) L2 (n * 11) z1) L3 0 z1) (some ⟨L2, 0, none⟩) L2 0 (ys ++ [z1]) ∧
    Brs (put11 (put11 (put11 wr L1 (n * 11) z0) L2 (n * 11) z1) L3 0 z1) (some ⟨L3, 0, none⟩) L3 0 (z1 :: ys) := by
  have h1 := h.l1
  have h2 := h.l2
  have h3 := h.l3
  refine ⟨put11_below (put11_below (put11_below h.below (by omega) _ _) (by omega) _ _) (by omega) _ _, ?_, ?_, ?_⟩
  · refine (((h.r1.put (by omega) z0).other (by omega) _ _).other (by omega) _ _).brs fun i z hz => ?_
    by_cases e : i = n
    · subst e
      rw [List.getElem?_append_right (by omega), hl] at hz
      simpa using hz
    · have hi : i < n := by have := (List.getElem?_eq_some_iff.1 hz).1; simp at this; omega
      rw [List.getElem?_append_left (by omega)] at hz
      simp only [if_neg e, if_pos hi]; exact hz
  · refine (((h.r2.other (by omega) _ _).put (by omega) z1).other (by omega) _ _).brs fun i z hz => ?_
    by_cases e : i = n
    · subst e
      rw [List.getElem?_append_right (by omega), hl] at hz
      simpa using hz
    · have hi : i < n := by have := (List.getElem?_eq_some_iff.1 hz).1; simp at this; omega
      rw [List.getElem?_append_left (by omega)] at hz
      simp only [if_neg e, if_pos hi]; exact hz
  · have r3 := ((h.r3.other (B' := L1) (by omega) (n * 11) z0).other (B' := L2) (by omega) (n * 11) z1).put (k := 0) (by omega) z1
    rw [Nat.zero_mul] at r3
    refine r3.brs fun i z hz => ?_
    match i, hz with
    | 0, hz => simpa using hz
    | j + 1, hz =>
      rw [List.getElem?_cons_succ] at hz
      have hj : j < n := by have := (List.getElem?_eq_some_iff.1 hz).1; omega
      simp only [if_neg (Nat.succ_ne_zero j), if_pos (show 0 < j + 1 ∧ j + 1 < n + 1 by omega)]
      simpa using hz

/-- All that is read at the law's end. -/
structure Fin5 (w0 : World) (S BS L1 L2 L3 C : Nat) (a' : Option Addr) (ys : List Br) (x : Br) (p : Option Addr) (z0 z1 : Br) (w : World) : Prop where
  frame : Below w0.heap.size w0 w
  src : Brs w a' S 0 ys
  base : Brs w (some ⟨BS, 0, none⟩) BS 0 ys
  l1 : Brs w (some ⟨L1, 0, none⟩) L1 0 (ys ++ [z0])
  l2 : Brs w (some ⟨L2, 0, none⟩) L2 0 (ys ++ [z1])
  l3 : Brs w (some ⟨L3, 0, none⟩) L3 0 (z1 :: ys)
  box : Box w C x p x.pl x.pl ⟨#[]⟩

theorem Fin5.next {w0 : World} {S BS L1 L2 L3 C : Nat} {a' : Option Addr} {ys : List Br} {x : Br} {p : Option Addr} {z0 z1 : Br} {w W w' : World} (h : Fin5 w0 S BS L1 L2 L3 C a' ys x p z0 z1 w) (h1 : Below w.heap.size w W) (h2 : Below W.heap.size W w') : Fin5 w0 S BS L1 L2 L3 C a' ys x p z0 z1 w' where
  frame := h.frame.trans ((h1.trans (h2.mono h1.size)).mono h.frame.size)
  src := (h.src.below h1).below h2
  base := (h.base.below h1).below h2
  l1 := (h.l1.below h1).below h2
  l2 := (h.l2.below h1).below h2
  l3 := (h.l3.below h1).below h2
  box := (h.box.below h1).below h2
end Go.Proofs.Qxb6604750a
