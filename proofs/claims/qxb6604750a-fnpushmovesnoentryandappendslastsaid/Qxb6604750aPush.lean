import Derived.Test.Qxb6604750aRows
import Derived.WalkKit
import Derived.WalkSpells
import Derived.WalkLawsBesides
import Derived.Deep.OwnRows
import Derived.Deep.RegionLaw
import Derived.Deep.AppendLies
import Derived.Laws.OwnMore
namespace Go.Proofs.Qxb6604750a
open Go.RowKit
set_option linter.unusedSimpArgs false
set_option linter.unusedVariables false

theorem Try.info25 : (Try.prog.info? 25).map (fun i => (i.zero, i.size, i.bytes)) = some (some (.pointer none), 1, 8) := by kernel_rfl
theorem Try.info24 : (Try.prog.info? 24).map (fun i => (i.zero, i.size, i.bytes)) = some (some (.slice none 0 0), 1, 24) := by kernel_rfl

/-- One block's fresh cells, behind a name. -/
def fresh : Array Value := madeCells #[.pointer none] 1024

theorem make_block (w : World) : (Instr.makeSlice 24 (.int .i64 0) (.int .i64 1024)).run Try.prog w = .ok (.slice (some ⟨w.heap.size, 0, none⟩) 0 1024) (w.alloc (.cells fresh 25)) := by
  obtain ⟨i0, hi, hz0, hz1, hz2⟩ := info_parts Try.info25
  have := run_make (P := Try.prog) w 24 25 i0 (.pointer none) Try.underlying24 hi hz0 .i64 .i64 0 1024 (by omega) (by omega) (by rw [hz2]; omega) (by omega)
  rw [this, hz1]
  rfl

/-- The world at the append of a new block: the block's row is laid, and the one-element list that holds its slice. -/
def atAppend (fr : Array Value) (w : World) : World := (w.alloc (.cells fr 25)).alloc (.cells #[.slice (some ⟨w.heap.size, 0, none⟩) 0 1024] 24)

/-- What a push that lays a new block leaves. -/
def Grew (fr : Array Value) (w : World) (O base m k : Nat) (bv : Value) (xs : List Value) (x : Addr) (e : Ending) (w' : World) : Prop :=
  ∃ g cap w1, e = .returned (.tuple #[]) ∧ w1.ownsRow base 24 1 (.slice (some ⟨g, 0, none⟩) (m + 1) cap) (m + 1) (xs ++ [.slice (some ⟨w.heap.size, 0, none⟩) 0 1024]) ∧
    (atAppend fr w).grownBy w1 bv.ownBlock ∧ (bv.ownBlock = some g ∨ g = w.heap.size + 2) ∧
    w'.Alike (((((w1.setCell ⟨O, 0, none⟩ (.slice (some ⟨g, 0, none⟩) (m + 1) cap)).setCell ⟨w.heap.size, 0, none⟩ (.pointer (some x))).setCell ⟨g, m, none⟩ (.slice (some ⟨w.heap.size, 0, none⟩) 1 1024)).setCell ⟨O, 1, none⟩ (.int .i64 ((k : Int) + 1))).alloc (.cells #[.pointer (some x)] 25))

theorem grown_drew {W w1 : World} {r : Option Nat} (h : W.drew.grownBy w1 r) : W.grownBy w1 r := ⟨h.os, h.tape, h.output, h.size, h.block⟩

/-- The facts that the walk wants of the world behind the append. -/
theorem mid_facts {fr : Array Value} (hfr : fr[0]? = some (.pointer none)) {w w1 : World} {O base m g cap k : Nat} {bv : Value} {xs : List Value}
    (hO0 : w.cell? ⟨O, 0, none⟩ = some bv) (fO0 : w.frozen? ⟨O, 0, none⟩ = false) (hO1 : w.cell? ⟨O, 1, none⟩ = some (.int .i64 k)) (fO1 : w.frozen? ⟨O, 1, none⟩ = false)
    (b1 : O < base) (hbase : base ≤ w.heap.size) (hb : w.ownsRow base 24 1 bv m xs)
    (hown : w1.ownsRow base 24 1 (.slice (some ⟨g, 0, none⟩) (m + 1) cap) (m + 1) (xs ++ [.slice (some ⟨w.heap.size, 0, none⟩) 0 1024]))
    (hgrow : (atAppend fr w).grownBy w1 bv.ownBlock) (hat : bv.ownBlock = some g ∨ g = w.heap.size + 2) :
    w1.cell? ⟨O, 0, none⟩ = some bv ∧ w1.frozen? ⟨O, 0, none⟩ = false ∧ w1.cell? ⟨O, 1, none⟩ = some (.int .i64 k) ∧ w1.frozen? ⟨O, 1, none⟩ = false ∧
    w1.cell? ⟨g, m, none⟩ = some (.slice (some ⟨w.heap.size, 0, none⟩) 0 1024) ∧ w1.frozen? ⟨g, m, none⟩ = false ∧
    w1.cell? ⟨w.heap.size, 0, none⟩ = some (.pointer none) ∧ w1.frozen? ⟨w.heap.size, 0, none⟩ = false ∧ O ≠ g ∧ O ≠ w.heap.size ∧ g ≠ w.heap.size ∧ O < w1.heap.size ∧ g < w1.heap.size ∧ w.heap.size < w1.heap.size ∧ w1.heap.size ≠ w.heap.size := by
  have hlt := hb.lt
  have hz : w.heap.size + 2 ≤ w1.heap.size := by have := hgrow.size; simp [atAppend] at this; omega
  have hOr : some O ≠ bv.ownBlock := by intro e; have := (hlt O e.symm).1; omega
  have hNr : some w.heap.size ≠ bv.ownBlock := by intro e; have := (hlt _ e.symm).2; omega
  have hOb : w1.heap[O]? = w.heap[O]? := by
    rw [hgrow.block O (by simp [atAppend]; omega) hOr]
    rw [atAppend, Below.heap_alloc _ _ _ (by simp; omega), Below.heap_alloc _ _ _ (by omega)]
  have hNb : w1.heap[w.heap.size]? = some (.cells fr 25 (0, 0)) := by
    rw [hgrow.block _ (by simp [atAppend]; omega) hNr, atAppend, Below.heap_alloc _ _ _ (by simp)]
    exact heap_alloc_new w _
  have hg : base ≤ g ∧ g < w1.heap.size := hown.lt g rfl
  have hgN : g ≠ w.heap.size := by
    rcases hat with h | h
    · have := (hlt g h).2; omega
    · omega
  have hrow := hown
  refine ⟨by rw [World.cell?_of_block (w := w) hOb]; exact hO0, by rw [World.frozen?_of_block (w := w) hOb]; exact fO0, by rw [World.cell?_of_block (w := w) hOb]; exact hO1, by rw [World.frozen?_of_block (w := w) hOb]; exact fO1,
    ?_, ?_, ?_, ?_, by omega, by omega, hgN, by omega, hg.2, by omega, by omega⟩
  · rw [hown.cellAt m (by omega)]
    have hl : xs.length = m := by have := hb.1; omega
    rw [List.getElem?_append_right (by omega)]; simp [hl]
  · exact hown.frozenAt m
  · simp [World.cell?, hNb, hfr]
  · simp [World.frozen?, hNb]

/-- The same behind the store of the new list into the order's first field. -/
theorem mid_store {w1 : World} {O g N m k : Nat} {bv lv v5 v7 : Value} (c1 : w1.cell? ⟨O, 0, none⟩ = some bv) (c3 : w1.cell? ⟨O, 1, none⟩ = some (.int .i64 k)) (c4 : w1.frozen? ⟨O, 1, none⟩ = false)
    (c5 : w1.cell? ⟨g, m, none⟩ = some v5) (c6 : w1.frozen? ⟨g, m, none⟩ = false) (c7 : w1.cell? ⟨N, 0, none⟩ = some v7) (c8 : w1.frozen? ⟨N, 0, none⟩ = false) (d1 : O ≠ g) (d2 : O ≠ N) (d4 : O < w1.heap.size) (d5 : g < w1.heap.size) (d6 : N < w1.heap.size) :
    ∃ w2, w2 = w1.setCell ⟨O, 0, none⟩ lv ∧ w2.cell? ⟨O, 0, none⟩ = some lv ∧ w2.cell? ⟨O, 1, none⟩ = some (.int .i64 k) ∧ w2.frozen? ⟨O, 1, none⟩ = false ∧ w2.cell? ⟨g, m, none⟩ = some v5 ∧ w2.frozen? ⟨g, m, none⟩ = false ∧ w2.cell? ⟨N, 0, none⟩ = some v7 ∧ w2.frozen? ⟨N, 0, none⟩ = false ∧ O < w2.heap.size ∧ g < w2.heap.size ∧ N < w2.heap.size := by
  refine ⟨_, rfl, World.cell?_setCell_same _ _ _ c1, ?_, ?_, ?_, ?_, ?_, ?_, by simpa using d4, by simpa using d5, by simpa using d6⟩
  · rw [World.cell?_setCell_other _ _ _ _ (by simp)]; exact c3
  · simpa using c4
  · rw [World.cell?_setCell_other _ _ _ _ (by simp [d1])]; exact c5
  · simpa using c6
  · rw [World.cell?_setCell_other _ _ _ _ (by simp [d2])]; exact c7
  · simpa using c8

theorem cell_two_new (fr : Array Value) (w : World) : ∀ j u, [Value.slice (some ⟨w.heap.size, 0, none⟩) 0 1024][j]? = some u → ((w.alloc (.cells fr 25)).alloc (.cells #[.slice (some ⟨w.heap.size, 0, none⟩) 0 1024] 24)).drew.cell? ((⟨w.heap.size + 1, 0, none⟩ : Addr).add j) = some u := by
  intro j u hu
  match j, hu with
  | 0, hu =>
    simp at hu; subst hu
    rw [show (⟨w.heap.size + 1, 0, none⟩ : Addr).add 0 = ⟨w.heap.size + 1, 0, none⟩ from rfl, World.cell?_drew, World.cell?_alloc_at _ _ _ _ (by simp)]
    rfl

set_option maxHeartbeats 1000000 in
theorem push_first (O base k : Nat) (fr : Array Value) (hfr : fr[0]? = some (.pointer none)) (hmk : ∀ wx, (Instr.makeSlice 24 (.int .i64 0) (.int .i64 1024)).run Try.prog wx = .ok (.slice (some ⟨wx.heap.size, 0, none⟩) 0 1024) (wx.alloc (.cells fr 25))) (x : Addr) (xs : List Value) (w : World)
    (hO0 : w.cell? ⟨O, 0, none⟩ = some (.slice none 0 0)) (fO0 : w.frozen? ⟨O, 0, none⟩ = false) (hO1 : w.cell? ⟨O, 1, none⟩ = some (.int .i64 k)) (fO1 : w.frozen? ⟨O, 1, none⟩ = false)
    (b1 : O < base) (hb : base ≤ w.heap.size) (hk : k < 65536) (HO : Hid (w.ownsRow base 24 1 (.slice none 0 0) 0 xs)) :
    Calls Try.prog 26 #[.pointer (some ⟨O, 0, none⟩), .pointer (some x)] w (Grew fr w O base 0 k (.slice none 0 0) xs x) := by
  obtain ⟨i0, hi, hz0, hz1, hz2⟩ := info_parts Try.info24
  have bO : O < w.heap.size := by omega
  go_enter Try.func26, Try.ntmps26
  go_wp2
  go_region_law (refine step_append_lies _ rfl (.tmp 28) (.tmp 30) 29 rfl base 24 i0 (.slice none 0 0) 1 24 Try.underlying29 hi hz0 hz1 hz2 rfl (by decide) (.slice none 0 0) 0 xs (by simp [Act.eval, Act.put]) ((HO.out.alloc _).alloc _).drew ⟨w.heap.size + 1, 0, none⟩ 1 1 [.slice (some ⟨w.heap.size, 0, none⟩) 0 1024] (by simp [Act.eval, Act.put]) rfl (cell_two_new fr w) (by simp [Value.oneCell']) (by decide) (by unfold maxLen; omega) (by omega) (by simp; omega) (w.heap.size + 2) (by simp) ?_; intro g cap w1 hown hgrow0 hat hlt; have hgrow : (atAppend fr w).grownBy w1 _ := grown_drew hgrow0; clear hgrow0; obtain ⟨c1, c2, c3, c4, c5, c6, c7, c8, d1, d2, d3, d4, d5, d6, d7⟩ := mid_facts hfr hO0 fO0 hO1 fO1 b1 hb HO.out hown hgrow hat; have HG : Hid ((atAppend fr w).grownBy w1 _) := hgrow; have HOW : Hid (w1.ownsRow base 24 1 (.slice (some ⟨g, 0, none⟩) (0 + 1) cap) (0 + 1) (xs ++ [.slice (some ⟨w.heap.size, 0, none⟩) 0 1024])) := hown; have HAT : Hid _ := hat; clear hgrow hown hat hlt d7)
  all_goals
    obtain ⟨w2, hw2, e0, e1, e2, e3, e4, e5, e6, e7, e8, e9⟩ := mid_store (lv := .slice (some ⟨g, 0, none⟩) (0 + 1) cap) c1 c3 c4 c5 c6 c7 c8 d1 d2 d4 d5 d6
    rw [← hw2]
    have HW : Hid _ := hw2
    clear hw2 c1 c2 c3 c4 c5 c6 c7 c8 d4 d5 d6 HO hmk hO0 fO0 hO1 fO1
    go_wp2
    go_region
    all_goals
      go_wp2
      go_end0
      refine ⟨g, cap, w1, rfl, HOW.out, HG.out, HAT.out, ?_⟩
      rw [← HW.out]
      exact ⟨rfl, rfl, rfl⟩

set_option maxHeartbeats 1000000 in
theorem push_full (O base k m g0 cap0 Gl : Nat) (fr : Array Value) (hfr : fr[0]? = some (.pointer none)) (hmk : ∀ wx, (Instr.makeSlice 24 (.int .i64 0) (.int .i64 1024)).run Try.prog wx = .ok (.slice (some ⟨wx.heap.size, 0, none⟩) 0 1024) (wx.alloc (.cells fr 25))) (x : Addr) (xs : List Value) (w : World)
    (hO0 : w.cell? ⟨O, 0, none⟩ = some (.slice (some ⟨g0, 0, none⟩) (m + 1) cap0)) (fO0 : w.frozen? ⟨O, 0, none⟩ = false) (hO1 : w.cell? ⟨O, 1, none⟩ = some (.int .i64 k)) (fO1 : w.frozen? ⟨O, 1, none⟩ = false)
    (hl0 : w.cell? ⟨g0, m, none⟩ = some (.slice (some ⟨Gl, 0, none⟩) 1024 1024)) (hm : m < 100)
    (b1 : O < base) (hb : base ≤ w.heap.size) (hk : k < 65536) (HO : Hid (w.ownsRow base 24 1 (.slice (some ⟨g0, 0, none⟩) (m + 1) cap0) (m + 1) xs)) :
    Calls Try.prog 26 #[.pointer (some ⟨O, 0, none⟩), .pointer (some x)] w (Grew fr w O base (m + 1) k (.slice (some ⟨g0, 0, none⟩) (m + 1) cap0) xs x) := by
  obtain ⟨i0, hi, hz0, hz1, hz2⟩ := info_parts Try.info24
  have bO : O < w.heap.size := by omega
  go_enter Try.func26, Try.ntmps26
  go_wp2
  go_region_law (refine step_append_lies _ rfl (.tmp 28) (.tmp 30) 29 rfl base 24 i0 (.slice none 0 0) 1 24 Try.underlying29 hi hz0 hz1 hz2 rfl (by decide) (.slice (some ⟨g0, 0, none⟩) (m + 1) cap0) (m + 1) xs (by simp [Act.eval, Act.put]) ((HO.out.alloc _).alloc _).drew ⟨w.heap.size + 1, 0, none⟩ 1 1 [.slice (some ⟨w.heap.size, 0, none⟩) 0 1024] (by simp [Act.eval, Act.put]) rfl (cell_two_new fr w) (by simp [Value.oneCell']) (by decide) (by unfold maxLen; omega) (by omega) (by simp; omega) (w.heap.size + 2) (by simp) ?_; intro g cap w1 hown hgrow0 hat hlt; have hgrow : (atAppend fr w).grownBy w1 _ := grown_drew hgrow0; clear hgrow0; obtain ⟨c1, c2, c3, c4, c5, c6, c7, c8, d1, d2, d3, d4, d5, d6, d7⟩ := mid_facts hfr hO0 fO0 hO1 fO1 b1 hb HO.out hown hgrow hat; have HG : Hid ((atAppend fr w).grownBy w1 _) := hgrow; have HOW : Hid (w1.ownsRow base 24 1 (.slice (some ⟨g, 0, none⟩) (m + 1 + 1) cap) (m + 1 + 1) (xs ++ [.slice (some ⟨w.heap.size, 0, none⟩) 0 1024])) := hown; have HAT : Hid _ := hat; clear hgrow hown hat hlt d7)
  all_goals
    obtain ⟨w2, hw2, e0, e1, e2, e3, e4, e5, e6, e7, e8, e9⟩ := mid_store (lv := .slice (some ⟨g, 0, none⟩) (m + 1 + 1) cap) c1 c3 c4 c5 c6 c7 c8 d1 d2 d4 d5 d6
    rw [← hw2]
    have HW : Hid _ := hw2
    clear hw2 c1 c2 c3 c4 c5 c6 c7 c8 d4 d5 d6 HO hmk hO0 fO0 hO1 fO1
    go_wp2
    go_region
    all_goals
      go_wp2
      go_end0
      refine ⟨g, cap, w1, rfl, HOW.out, HG.out, HAT.out, ?_⟩
      rw [← HW.out]
      exact ⟨rfl, rfl, rfl⟩
end Go.Proofs.Qxb6604750a
