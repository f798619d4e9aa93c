import Derived.Test.Qxb6604750aFillsMain
namespace Go.Proofs.Qxb6604750a
open Go.RowKit
set_option linter.unusedSimpArgs false
set_option linter.unusedVariables false

theorem info25_some : ∃ j, Try.prog.info? 25 = some j := by
  have h : (Try.prog.info? 25).isSome = true := by kernel_rfl
  exact Option.isSome_iff_exists.1 h

theorem neq_same32 (a : Addr) (w : World) : (binOp .neq 32 (.pointer (some a)) (.pointer (some a))).run Try.prog w = .ok (.bool false) w := by
  obtain ⟨j, hj⟩ := info25_some
  exact Lib.run_neq_ptr_same w a Try.underlying32 hj

/-- The copy of the list of blocks, q of its n places filled; it lies at block S, above all that the order holds. -/
structure Snap (w : World) (k n S : Nat) (E G : Nat → Nat) (bv : Value) (q : Nat) (wr : World) : Prop where
  ord : Ord w.heap.size (w.heap.size + 2) k E G bv wr
  es : wr.rowIs (w.heap.size + 1) 25 k (fun i => if i < k then .pointer (some ⟨E i, 0, none⟩) else .pointer none)
  kept : Kept w wr
  snap : wr.rowIs S 24 n (fun i => if i < q then slv G k i else .slice none 0 0)
  above1 : ∀ b, bv.ownBlock = some b → b < S
  above2 : ∀ j, j < nb k → G j < S
  above3 : w.heap.size + 1 < S

theorem Snap.start {w wr : World} {k n : Nat} {E G : Nat → Nat} {bv : Value} (ho : Ord w.heap.size (w.heap.size + 2) k E G bv wr)
    (hr : wr.rowIs (w.heap.size + 1) 25 k (fun i => if i < k then .pointer (some ⟨E i, 0, none⟩) else .pointer none)) (hk : Kept w wr) :
    Snap w k n wr.heap.size E G bv 0 (wr.alloc (.cells (madeCells #[.slice none 0 0] n) 24)) where
  ord := ho.kept (by simp) (Below.heap_alloc _ _ _ ho.ord.lt) (fun b hb => Below.heap_alloc _ _ _ (ho.own.lt b hb).2) (fun j hj => Below.heap_alloc _ _ _ (ho.rows j hj).lt)
  es := hr.alloc _
  kept := hk.alloc _
  snap := by simpa using World.rowIs_made wr (.slice none 0 0) n 24
  above1 := fun b hb => (ho.own.lt b hb).2
  above2 := fun j hj => (ho.rows j hj).lt
  above3 := hr.lt

theorem Snap.step {w wr : World} {k n S q : Nat} {E G : Nat → Nat} {bv v : Value} (h : Snap w k n S E G bv q wr) (hv : v = slv G k q) : Snap w k n S E G bv (q + 1) (wr.setCell ⟨S, q, none⟩ v) where
  ord := h.ord.kept (by simp) (Below.heap_setCell _ _ _ _ (by have := h.above3; show w.heap.size ≠ S; omega)) (fun b hb => Below.heap_setCell _ _ _ _ (by have := h.above1 b hb; show b ≠ S; omega)) (fun j hj => Below.heap_setCell _ _ _ _ (by have := h.above2 j hj; show G j ≠ S; omega))
  es := h.es.setOther (by have := h.above3; show w.heap.size + 1 ≠ S; omega) _
  kept := h.kept.setCell (by have := h.above3; show w.heap.size ≤ S; omega) _
  snap := by
    refine (h.snap.set q v).congr fun i hi => ?_
    by_cases e : i = q
    · subst e; simp [hv]
    · rw [if_neg e]
      by_cases e2 : i < q
      · rw [if_pos e2, if_pos (by omega)]
      · rw [if_neg e2, if_neg (by omega)]
  above1 := h.above1
  above2 := h.above2
  above3 := h.above3

/-- The new entry is made: all is ready for its push. -/
theorem Snap.ready {w wr w1 : World} {k n S : Nat} {E G : Nat → Nat} {bv : Value} (h : Snap w k n S E G bv n wr) (hk : Kept wr w1) :
    ∃ E', E' k = wr.heap.size ∧ Snap w k n S E' G bv n w1 := by
  refine ⟨fun i => if i = k then wr.heap.size else E i, by simp, ?_, ?_, h.kept.trans hk, h.snap.of_block (hk.block _ h.snap.lt), h.above1, h.above2, h.above3⟩
  · exact (h.ord.kept hk.size (hk.block _ h.ord.ord.lt) (fun b hb => hk.block b (h.ord.own.lt b hb).2) (fun i hi => hk.block _ (h.ord.rows i hi).lt)).congrE fun i hi => by rw [if_neg (by omega)]
  · refine (h.es.of_block (hk.block _ h.es.lt)).congr fun i hi => ?_
    rw [if_pos hi, if_pos hi]
    simp [show ¬ i = k by omega]

/-- All that is read at the end: the order with k + 1 entries, the entries' list, the copy. -/
structure Done (w : World) (k S : Nat) (E G : Nat → Nat) (bv : Value) (w3 : World) : Prop where
  ord : Ord w.heap.size (w.heap.size + 2) (k + 1) E G bv w3
  es : w3.rowIs (w.heap.size + 1) 25 k (fun i => if i < k then .pointer (some ⟨E i, 0, none⟩) else .pointer none)
  snap : w3.rowIs S 24 (nb k) (slv G k)
  kept : Kept w w3

theorem Snap.pushed {w w1 w3 : World} {k S : Nat} {E G : Nat → Nat} {bv : Value} (h : Snap w k (nb k) S E G bv (nb k) w1)
    (hp : ∃ bv' G', Ord w.heap.size (w.heap.size + 2) (k + 1) E G' bv' w3 ∧ Spared w.heap.size bv G (nb k) w1 w3 ∧ ∀ i, i < nb k → G' i = G i) : ∃ bv' G', Done w k S E G' bv' w3 := by
  obtain ⟨bv', G', ho, hs, hg⟩ := hp
  have own := h.ord.own.lt
  refine ⟨bv', G', ho, h.es.of_block (hs.block _ h.es.lt (by omega) (fun e => by have := (own _ e).1; omega) (fun i hi e => by have := h.ord.low i hi; omega)), ?_, ?_⟩
  · have h3 := h.above3
    refine (h.snap.of_block (hs.block S h.snap.lt (by omega) (fun e => by have := h.above1 _ e; omega) (fun i hi e => by have := h.above2 i hi; omega))).congr fun i hi => ?_
    rw [if_pos hi, slv, slv, hg i hi]
  · exact ⟨hs.os.trans h.kept.os, hs.output.trans h.kept.output, Nat.le_trans h.kept.size hs.size, fun b hb => by
      rw [hs.block b (Nat.lt_of_lt_of_le hb h.kept.size) (by omega) (fun e => by have := (own _ e).1; omega) (fun i hi e => by have := h.ord.low i hi; omega)]
      exact h.kept.block b hb⟩

theorem Done.form {w w3 : World} {k S : Nat} {E G : Nat → Nat} {bv : Value} (h : Done w k S E G bv w3) : ∃ g cap, bv = .slice (some ⟨g, 0, none⟩) (nb (k + 1)) cap := by
  obtain ⟨g, cap, hbv, _⟩ := h.ord.own.form (by unfold nb; omega)
  exact ⟨g, cap, hbv⟩

/-- Block j's slice in the order's own list. -/
theorem Done.blk {w w3 : World} {k S g cap : Nat} {E G : Nat → Nat} (h : Done w k S E G (.slice (some ⟨g, 0, none⟩) (nb (k + 1)) cap) w3) (j : Nat) (hj : j < nb (k + 1)) :
    w3.cell? ⟨g, j, none⟩ = some (.slice (some ⟨G j, 0, none⟩) (min 1024 (k + 1 - 1024 * j)) 1024) := by
  rw [h.ord.own.cellAt j (by omega)]
  simp [slv, hj]

/-- Entry x in its place. -/
theorem Done.entry {w w3 : World} {k S : Nat} {E G : Nat → Nat} {bv : Value} (h : Done w k S E G bv w3) (x : Nat) (hx : x ≤ k) :
    w3.cell? ⟨G (x / 1024), x % 1024, none⟩ = some (.pointer (some ⟨E x, 0, none⟩)) := by
  rw [(h.ord.rows (x / 1024) (by unfold nb; omega)).cell (i := x % 1024) (by omega)]
  have e : 1024 * (x / 1024) + x % 1024 = x := by omega
  simp only [ent, e, if_pos (show x < k + 1 by omega)]
end Go.Proofs.Qxb6604750a
