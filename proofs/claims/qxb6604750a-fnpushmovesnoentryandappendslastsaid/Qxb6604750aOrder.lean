import Derived.Test.Qxb6604750aPushRoom
namespace Go.Proofs.Qxb6604750a
open Go.RowKit
set_option linter.unusedSimpArgs false
set_option linter.unusedVariables false

/-- How many blocks hold k entries. -/
def nb (k : Nat) : Nat := (k + 1023) / 1024

/-- The slice of block j when k entries have been pushed. -/
def slv (G : Nat → Nat) (k j : Nat) : Value := .slice (some ⟨G j, 0, none⟩) (min 1024 (k - 1024 * j)) 1024

/-- What cell i of block j holds when k entries have been pushed. -/
def ent (E : Nat → Nat) (k j i : Nat) : Value := if 1024 * j + i < k then .pointer (some ⟨E (1024 * j + i), 0, none⟩) else .pointer none

/-- THE ORDER, k ENTRIES PUSHED: the struct at block O; the list of the blocks' slices 'bv', a row of the call's own; block j's row at block G j; entry i is the pointer to block E i. -/
structure Ord (O base k : Nat) (E G : Nat → Nat) (bv : Value) (w : World) : Prop where
  lo : O < base
  hb : base ≤ w.heap.size
  ord : w.rowIs O 63 2 (fun i => if i = 0 then bv else .int .i64 (k : Int))
  own : w.ownsRow base 24 1 bv (nb k) ((List.range (nb k)).map (slv G k))
  rows : ∀ j, j < nb k → w.rowIs (G j) 25 1024 (ent E k j)
  low : ∀ j, j < nb k → base ≤ G j
  incr : ∀ i j, i < j → j < nb k → G i < G j
  nil : k = 0 → bv = .slice none 0 0

/-- What a push leaves alone: every block but the order's own, the list's row, the blocks' rows. -/
structure Spared (O : Nat) (bv : Value) (G : Nat → Nat) (m : Nat) (w w' : World) : Prop where
  os : w'.os = w.os
  output : w'.output = w.output
  size : w.heap.size ≤ w'.heap.size
  block : ∀ b, b < w.heap.size → b ≠ O → bv.ownBlock ≠ some b → (∀ j, j < m → G j ≠ b) → w'.heap[b]? = w.heap[b]?

theorem ownsRow_heap {w w' : World} {base : Nat} {e : TypeId} {size : Nat} {v : Value} {n : Nat} {xs : List Value} (h : w.ownsRow base e size v n xs) (e' : w'.heap = w.heap) : w'.ownsRow base e size v n xs := by
  rw [World.ownsRow] at h ⊢
  rw [e']; exact h

theorem Ord.alike {O base k : Nat} {E G : Nat → Nat} {bv : Value} {w w' : World} (h : Ord O base k E G bv w) (e : w'.heap = w.heap) : Ord O base k E G bv w' where
  lo := h.lo
  hb := by rw [e]; exact h.hb
  ord := h.ord.of_block (by rw [e])
  own := ownsRow_heap h.own e
  rows := fun j hj => (h.rows j hj).of_block (by rw [e])
  low := h.low
  incr := h.incr
  nil := h.nil

theorem own_ne_row {w : World} {base g n cap b c : Nat} {xs : List Value} {f : Nat → Value} (h : w.ownsRow base 24 1 (.slice (some ⟨g, 0, none⟩) n cap) n xs) (hr : w.rowIs b 25 c f) : g ≠ b := by
  intro e
  subst e
  obtain ⟨cs, hb, _⟩ := hr
  rcases h.2 with ⟨h', _⟩ | ⟨g', cap', cur, h', _, hg, _⟩
  · simp at h'
  · simp only [Value.slice.injEq, Option.some.injEq, Addr.mk.injEq, and_true, true_and] at h'
    obtain ⟨rfl, rfl⟩ := h'
    rw [hb] at hg
    simp at hg

theorem range_slv_room {G : Nat → Nat} {k l : Nat} (hl : 1024 * l < k) (hl2 : k < 1024 * (l + 1)) :
    ((List.range (l + 1)).map (slv G k)).set l (.slice (some ⟨G l, 0, none⟩) (k - 1024 * l + 1) 1024) = (List.range (l + 1)).map (slv G (k + 1)) := by
  apply List.ext_getElem?
  intro j
  rw [List.getElem?_set]
  by_cases e : l = j
  · subst e
    rw [if_pos rfl]
    simp [slv]
    omega
  · rw [if_neg e]
    by_cases hj : j < l + 1
    · simp [hj, slv]
      omega
    · simp [hj]

theorem range_slv_grow {G : Nat → Nat} {m N : Nat} : 
    (((List.range m).map (slv G (1024 * m))) ++ [Value.slice (some ⟨N, 0, none⟩) 0 1024]).set m (Value.slice (some ⟨N, 0, none⟩) 1 1024) = (List.range (m + 1)).map (slv (fun j => if j = m then N else G j) (1024 * m + 1)) := by
  apply List.ext_getElem?
  intro j
  rw [List.getElem?_set]
  by_cases e : m = j
  · subst e
    rw [if_pos rfl]
    simp [slv]
  · rw [if_neg e]
    by_cases hj : j < m
    · rw [List.getElem?_append_left (by simpa using hj)]
      simp [hj, slv, show j < m + 1 by omega, show ¬ j = m by omega]
      omega
    · rw [List.getElem?_append_right (by simp; omega)]
      simp [show ¬ j < m + 1 by omega]
      omega

/-- Where there is room in the last block. -/
theorem Ord.room {O base k l g cap : Nat} {E G : Nat → Nat} {w : World} (h : Ord O base k E G (.slice (some ⟨g, 0, none⟩) (l + 1) cap) w) (hl : 1024 * l < k) (hl2 : k < 1024 * (l + 1)) :
    Ord O base (k + 1) E G (.slice (some ⟨g, 0, none⟩) (l + 1) cap) ((((w.setCell ⟨G l, k - 1024 * l, none⟩ (.pointer (some ⟨E k, 0, none⟩))).setCell ⟨g, l, none⟩ (.slice (some ⟨G l, 0, none⟩) (k - 1024 * l + 1) 1024)).setCell ⟨O, 1, none⟩ (.int .i64 ((k : Int) + 1))).alloc (.cells #[.pointer (some ⟨E k, 0, none⟩)] 25)) := by
  have n0 : nb k = l + 1 := by unfold nb; omega
  have n1 : nb (k + 1) = l + 1 := by unfold nb; omega
  have hown := h.own
  rw [n0] at hown
  have hgb : base ≤ g := (hown.lt g rfl).1
  have hlo := h.lo
  have hgr : ∀ j, j < l + 1 → g ≠ G j := fun j hj => own_ne_row hown (h.rows j (by omega))
  have hGO : ∀ j, j < l + 1 → G j ≠ O := fun j hj => by have := h.low j (by omega); omega
  refine ⟨hlo, ?_, ?_, ?_, ?_, fun j hj => h.low j (by omega), fun i j hi hj => h.incr i j hi (by omega), fun e => by omega⟩
  · have := h.hb; simp; omega
  · refine ((((h.ord.setOther (a := ⟨G l, k - 1024 * l, none⟩) (Ne.symm (hGO l (by omega))) _).setOther (a := ⟨g, l, none⟩) (by show O ≠ g; omega) _).set 1 _).alloc _).congr fun i hi => ?_
    by_cases e : i = 1
    · subst e; simp
    · have : i = 0 := by omega
      subst this; simp
  · rw [n1]
    have o1 := ownsRow_setCell_other hown (a := ⟨G l, k - 1024 * l, none⟩) (by simp [Value.ownBlock]; exact hgr l (by omega)) (.pointer (some ⟨E k, 0, none⟩))
    have o2 := (o1.stored l (.slice (some ⟨G l, 0, none⟩) (k - 1024 * l + 1) 1024)).1
    rw [range_slv_room hl hl2] at o2
    exact (ownsRow_setCell_other o2 (a := ⟨O, 1, none⟩) (by simp [Value.ownBlock]; omega) _).alloc _
  · intro j hj
    rw [n1] at hj
    have hr := h.rows j (by omega)
    by_cases e : j = l
    · subst e
      refine ((((hr.set (k - 1024 * j) _).setOther (a := ⟨g, j, none⟩) (Ne.symm (hgr j hj)) _).setOther (a := ⟨O, 1, none⟩) (hGO j hj) _).alloc _).congr fun i hi => ?_
      simp only [ent]
      by_cases e2 : i = k - 1024 * j
      · subst e2
        have : 1024 * j + (k - 1024 * j) = k := by omega
        rw [if_pos rfl, this, if_pos (by omega)]
      · rw [if_neg e2]
        by_cases e3 : 1024 * j + i < k
        · rw [if_pos e3, if_pos (by omega)]
        · rw [if_neg e3, if_neg (by omega)]
    · have hlt := h.incr j l (by omega) (by omega)
      refine ((((hr.setOther (a := ⟨G l, k - 1024 * l, none⟩) (by show G j ≠ G l; omega) _).setOther (a := ⟨g, l, none⟩) (Ne.symm (hgr j hj)) _).setOther (a := ⟨O, 1, none⟩) (hGO j hj) _).alloc _).congr fun i hi => ?_
      simp only [ent]
      rw [if_pos (by omega), if_pos (by omega)]

theorem fresh_row (w : World) : (w.alloc (.cells fresh 25)).rowIs w.heap.size 25 1024 (fun _ => .pointer none) := World.rowIs_made w (.pointer none) 1024 25

/-- Where a new block was laid. -/
theorem Ord.grow {O base m g cap : Nat} {E G : Nat → Nat} {bv : Value} {w w1 : World} (h : Ord O base (1024 * m) E G bv w)
    (hown : w1.ownsRow base 24 1 (.slice (some ⟨g, 0, none⟩) (m + 1) cap) (m + 1) ((List.range m).map (slv G (1024 * m)) ++ [.slice (some ⟨w.heap.size, 0, none⟩) 0 1024]))
    (hgrow : (atAppend fresh w).grownBy w1 bv.ownBlock) :
    Ord O base (1024 * m + 1) E (fun j => if j = m then w.heap.size else G j) (.slice (some ⟨g, 0, none⟩) (m + 1) cap) (((((w1.setCell ⟨O, 0, none⟩ (.slice (some ⟨g, 0, none⟩) (m + 1) cap)).setCell ⟨w.heap.size, 0, none⟩ (.pointer (some ⟨E (1024 * m), 0, none⟩))).setCell ⟨g, m, none⟩ (.slice (some ⟨w.heap.size, 0, none⟩) 1 1024)).setCell ⟨O, 1, none⟩ (.int .i64 (((1024 * m : Nat) : Int) + 1))).alloc (.cells #[.pointer (some ⟨E (1024 * m), 0, none⟩)] 25)) := by
  have n0 : nb (1024 * m) = m := by unfold nb; omega
  have n1 : nb (1024 * m + 1) = m + 1 := by unfold nb; omega
  have hlo := h.lo
  have hbs := h.hb
  have hown0 := h.own
  have hlt := hown0.lt
  have hz : w.heap.size + 2 ≤ w1.heap.size := by have := hgrow.size; simp [atAppend] at this; omega
  have old : ∀ b, b < w.heap.size → bv.ownBlock ≠ some b → w1.heap[b]? = w.heap[b]? := fun b hb hne => by
    rw [hgrow.block b (by simp [atAppend]; omega) (fun e => hne e.symm), atAppend, Below.heap_alloc _ _ _ (by simp; omega), Below.heap_alloc _ _ _ hb]
  have hO1 : w1.rowIs O 63 2 (fun i => if i = 0 then bv else .int .i64 ((1024 * m : Nat) : Int)) := h.ord.of_block (old O (by omega) (fun e => by have := (hlt O e).1; omega))
  have hbne : ∀ j, j < m → bv.ownBlock ≠ some (G j) := fun j hj e => by
    have hr := h.rows j (by omega)
    rcases hown0.2 with ⟨h', _⟩ | ⟨g', cap', cur, h', _, hg, _⟩
    · rw [h'] at e; simp [Value.ownBlock] at e
    · rw [h'] at hown0 e
      simp [Value.ownBlock] at e
      exact own_ne_row hown0 hr e
  have hR1 : ∀ j, j < m → w1.rowIs (G j) 25 1024 (ent E (1024 * m) j) := fun j hj => (h.rows j (by omega)).of_block (old (G j) (h.rows j (by omega)).lt (hbne j hj))
  have hN1 : w1.rowIs w.heap.size 25 1024 (fun _ => .pointer none) := by
    refine (fresh_row w).of_block ?_
    rw [hgrow.block _ (by simp [atAppend]; omega) (fun e => by have := (hlt _ e.symm).2; omega), atAppend, Below.heap_alloc _ _ _ (by simp)]
  have hgb : base ≤ g := (hown.lt g rfl).1
  have hgr : ∀ j, j < m → g ≠ G j := fun j hj => own_ne_row hown (hR1 j hj)
  have hgN : g ≠ w.heap.size := own_ne_row hown hN1
  have hGO : ∀ j, j < m → G j ≠ O := fun j hj => by have := h.low j (by omega); omega
  have hGN : ∀ j, j < m → G j < w.heap.size := fun j hj => (h.rows j (by omega)).lt
  refine ⟨hlo, ?_, ?_, ?_, ?_, ?_, ?_, fun e => by omega⟩
  · simp; omega
  · refine (((((hO1.set 0 _).setOther (a := ⟨w.heap.size, 0, none⟩) (by show O ≠ w.heap.size; omega) _).setOther (a := ⟨g, m, none⟩) (by show O ≠ g; omega) _).set 1 _).alloc _).congr fun i hi => ?_
    by_cases e : i = 1
    · subst e; simp
    · have : i = 0 := by omega
      subst this; simp
  · rw [n1]
    have o1 := ownsRow_setCell_other hown (a := ⟨O, 0, none⟩) (by simp [Value.ownBlock]; omega) (.slice (some ⟨g, 0, none⟩) (m + 1) cap)
    have o2 := ownsRow_setCell_other o1 (a := ⟨w.heap.size, 0, none⟩) (by simp [Value.ownBlock]; exact hgN) (.pointer (some ⟨E (1024 * m), 0, none⟩))
    have o3 := (o2.stored m (.slice (some ⟨w.heap.size, 0, none⟩) 1 1024)).1
    rw [range_slv_grow] at o3
    exact (ownsRow_setCell_other o3 (a := ⟨O, 1, none⟩) (by simp [Value.ownBlock]; omega) _).alloc _
  · intro j hj
    rw [n1] at hj
    by_cases e : j = m
    · subst e
      simp only [if_true]
      refine (((((hN1.setOther (a := ⟨O, 0, none⟩) (by show w.heap.size ≠ O; omega) _).set 0 _).setOther (a := ⟨g, j, none⟩) (Ne.symm hgN) _).setOther (a := ⟨O, 1, none⟩) (by show w.heap.size ≠ O; omega) _).alloc _).congr fun i hi => ?_
      simp only [ent]
      by_cases e2 : i = 0
      · subst e2
        rw [if_pos rfl, if_pos (by omega)]
        rfl
      · rw [if_neg e2, if_neg (by omega)]
    · have hj' : j < m := by omega
      simp only [if_neg e]
      refine (((((hR1 j hj').setOther (a := ⟨O, 0, none⟩) (hGO j hj') _).setOther (a := ⟨w.heap.size, 0, none⟩) (by show G j ≠ w.heap.size; have := hGN j hj'; omega) _).setOther (a := ⟨g, m, none⟩) (Ne.symm (hgr j hj')) _).setOther (a := ⟨O, 1, none⟩) (hGO j hj') _ |>.alloc _).congr fun i hi => ?_
      simp only [ent]
      rw [if_pos (by omega), if_pos (by omega)]
  · intro j hj
    rw [n1] at hj
    by_cases e : j = m
    · simp only [if_pos e]; exact hbs
    · simp only [if_neg e]; exact h.low j (by omega)
  · intro i j hi hj
    rw [n1] at hj
    by_cases e : j = m
    · simp only [if_pos e, if_neg (show ¬ i = m by omega)]; exact hGN i (by omega)
    · simp only [if_neg e, if_neg (show ¬ i = m by omega)]; exact h.incr i j hi (by omega)

theorem Spared.of_heap {O m : Nat} {bv : Value} {G : Nat → Nat} {w w' W : World} (ha : w'.Alike W) (os : W.os = w.os) (output : W.output = w.output) (size : w.heap.size ≤ W.heap.size)
    (block : ∀ b, b < w.heap.size → b ≠ O → bv.ownBlock ≠ some b → (∀ j, j < m → G j ≠ b) → W.heap[b]? = w.heap[b]?) : Spared O bv G m w w' where
  os := ha.2.1.trans os
  output := ha.2.2.trans output
  size := by rw [ha.1]; exact size
  block := fun b h1 h2 h3 h4 => by rw [ha.1]; exact block b h1 h2 h3 h4

/-- What a push does. -/
def PushedOne (O base k : Nat) (E G : Nat → Nat) (bv : Value) (w : World) (e : Ending) (w' : World) : Prop :=
  e = .returned (.tuple #[]) ∧ ∃ bv' G', Ord O base (k + 1) E G' bv' w' ∧ Spared O bv G (nb k) w w' ∧ ∀ j, j < nb k → G' j = G j

theorem fresh0 : fresh[0]? = some (.pointer none) := by simp [fresh, madeCells]

theorem Ord.cells {O base k : Nat} {E G : Nat → Nat} {bv : Value} {w : World} (h : Ord O base k E G bv w) :
    w.cell? ⟨O, 0, none⟩ = some bv ∧ w.frozen? ⟨O, 0, none⟩ = false ∧ w.cell? ⟨O, 1, none⟩ = some (.int .i64 (k : Int)) ∧ w.frozen? ⟨O, 1, none⟩ = false :=
  ⟨h.ord.cell (i := 0) (by omega), h.ord.frozen 0, h.ord.cell (i := 1) (by omega), h.ord.frozen 1⟩

theorem spared_grew {O base m : Nat} {E G : Nat → Nat} {bv lv : Value} {w w1 w' : World} {g : Nat} {x : Addr} {v1 v2 : Value} {ob : Obj} (h : Ord O base (1024 * m) E G bv w) (hgrow : (atAppend fresh w).grownBy w1 bv.ownBlock) (hat : bv.ownBlock = some g ∨ g = w.heap.size + 2)
    (ha : w'.Alike (((((w1.setCell ⟨O, 0, none⟩ lv).setCell ⟨w.heap.size, 0, none⟩ (.pointer (some x))).setCell ⟨g, m, none⟩ v1).setCell ⟨O, 1, none⟩ v2).alloc ob)) : Spared O bv G (nb (1024 * m)) w w' := by
  have hz : w.heap.size + 2 ≤ w1.heap.size := by have := hgrow.size; simp [atAppend] at this; omega
  refine Spared.of_heap ha hgrow.os hgrow.output (by simp; omega) fun b h1 h2 h3 _ => ?_
  have hbg : b ≠ g := by
    rcases hat with h' | h'
    · intro e; rw [e] at h3; exact h3 h'
    · omega
  rw [Below.heap_alloc _ _ _ (by simp; omega), Below.heap_setCell _ _ _ _ (by show b ≠ O; exact h2), Below.heap_setCell _ _ _ _ (by show b ≠ g; exact hbg), Below.heap_setCell _ _ _ _ (by show b ≠ w.heap.size; omega), Below.heap_setCell _ _ _ _ (by show b ≠ O; exact h2),
    hgrow.block b (by simp [atAppend]; omega) (fun e => h3 e.symm), atAppend, Below.heap_alloc _ _ _ (by simp; omega), Below.heap_alloc _ _ _ h1]

theorem push_any (O base k : Nat) (E G : Nat → Nat) (bv : Value) (w : World) (h : Ord O base k E G bv w) (hk : k < 65536) :
    Calls Try.prog 26 #[.pointer (some ⟨O, 0, none⟩), .pointer (some ⟨E k, 0, none⟩)] w (PushedOne O base k E G bv w) := by
  obtain ⟨c0, f0, c1, f1⟩ := h.cells
  have hlo := h.lo
  have hb := h.hb
  have hown := h.own
  by_cases hr : k % 1024 = 0
  · obtain ⟨m, rfl⟩ : ∃ m, k = 1024 * m := ⟨k / 1024, by omega⟩
    have n0 : nb (1024 * m) = m := by unfold nb; omega
    rw [n0] at hown
    have fin : ∀ e w', Grew fresh w O base m (1024 * m) bv ((List.range m).map (slv G (1024 * m))) ⟨E (1024 * m), 0, none⟩ e w' → PushedOne O base (1024 * m) E G bv w e w' := by
      rintro e w' ⟨g, cap, w1, he, ho, hg, hat, ha⟩
      refine ⟨he, _, _, (h.grow ho hg).alike ha.1, spared_grew h hg hat ha, fun j hj => ?_⟩
      rw [n0] at hj
      rw [if_neg (by omega)]
    cases m with
    | zero =>
      have hbv := h.nil (by omega)
      subst hbv
      exact (push_first O base (1024 * 0) fresh fresh0 make_block ⟨E (1024 * 0), 0, none⟩ _ w c0 f0 c1 f1 hlo hb hk hown).mono fin
    | succ m =>
      obtain ⟨g, cap, hbv, hgb, hgs⟩ := hown.form (by omega)
      subst hbv
      have hl0 : w.cell? ⟨g, m, none⟩ = some (.slice (some ⟨G m, 0, none⟩) 1024 1024) := by
        rw [hown.cellAt m (by omega)]
        simp [slv]
        omega
      exact (push_full O base (1024 * (m + 1)) m g cap (G m) fresh fresh0 make_block ⟨E (1024 * (m + 1)), 0, none⟩ _ w c0 f0 c1 f1 hl0 (by omega) hlo hb hk hown).mono fin
  · obtain ⟨l, hl, hl2⟩ : ∃ l, 1024 * l < k ∧ k < 1024 * (l + 1) := ⟨k / 1024, by omega, by omega⟩
    have n0 : nb k = l + 1 := by unfold nb; omega
    rw [n0] at hown
    obtain ⟨g, cap, hbv, hgb, hgs⟩ := hown.form (by omega)
    subst hbv
    have hrl := h.rows l (by omega)
    have hlow := h.low l (by omega)
    have hgr := own_ne_row hown hrl
    have hg : w.cell? ⟨g, l, none⟩ = some (.slice (some ⟨G l, 0, none⟩) (k - 1024 * l) 1024) := by
      rw [hown.cellAt l (by omega)]
      simp [slv]
      omega
    refine (push_room O g (G l) l (k - 1024 * l) cap k ⟨E k, 0, none⟩ _ w c0 c1 f1 hg (hown.frozenAt l) (hrl.cell (i := k - 1024 * l) (by omega)) (hrl.frozen _) (by omega) (by omega) hgr (by omega) hgs hrl.lt (by omega) (by omega) hk).mono ?_
    rintro e w' ⟨he, ha⟩
    refine ⟨he, _, G, (h.room hl hl2).alike ha.1, ?_, fun j _ => rfl⟩
    refine Spared.of_heap ha rfl rfl (by simp) fun b h1 h2 h3 h4 => ?_
    rw [Below.heap_alloc _ _ _ (by simpa using h1), Below.heap_setCell _ _ _ _ (by show b ≠ O; exact h2), Below.heap_setCell _ _ _ _ (by show b ≠ g; intro e; rw [e] at h3; exact h3 rfl), Below.heap_setCell _ _ _ _ (by show b ≠ G l; exact fun e => h4 l (by omega) e.symm)]
end Go.Proofs.Qxb6604750a
