import Derived.Test.Qxb6604750aOrder
import Derived.Deep.QuietTactic
import Derived.BigQuiet
import Derived.Deep.Draws
import Derived.Laws.Pointers
namespace Go.Proofs.Qxb6604750a
open Go.RowKit
set_option linter.unusedSimpArgs false
set_option linter.unusedVariables false

/-- Nothing that was there has turned; new blocks may have come. -/
structure Kept (w w' : World) : Prop where
  os : w'.os = w.os
  output : w'.output = w.output
  size : w.heap.size ≤ w'.heap.size
  block : ∀ b, b < w.heap.size → w'.heap[b]? = w.heap[b]?

theorem Kept.refl (w : World) : Kept w w := ⟨rfl, rfl, Nat.le_refl _, fun _ _ => rfl⟩
theorem Kept.trans {a b c : World} (h : Kept a b) (k : Kept b c) : Kept a c :=
  ⟨k.os.trans h.os, k.output.trans h.output, Nat.le_trans h.size k.size, fun i hi => (k.block i (Nat.lt_of_lt_of_le hi h.size)).trans (h.block i hi)⟩
theorem Kept.alloc {a w : World} (h : Kept a w) (o : Obj) : Kept a (w.alloc o) :=
  ⟨h.os, h.output, by have := h.size; simp; omega, fun i hi => (Below.heap_alloc _ _ _ (Nat.lt_of_lt_of_le hi h.size)).trans (h.block i hi)⟩
theorem Kept.setCell {a w : World} (h : Kept a w) {p : Addr} (hp : a.heap.size ≤ p.block) (u : Value) : Kept a (w.setCell p u) :=
  ⟨h.os, h.output, by have := h.size; simpa using this, fun i hi => (Below.heap_setCell _ _ _ _ (by omega)).trans (h.block i hi)⟩
theorem Kept.alike {a w w' : World} (h : Kept a w) (e : w'.Alike w) : Kept a w' :=
  ⟨e.2.1.trans h.os, e.2.2.trans h.output, by rw [e.1]; exact h.size, fun i hi => by rw [e.1]; exact h.block i hi⟩
theorem Kept.frame {W w' : World} (h : Kept W w') (may : MemPlace → Prop) : W.keptBut w' may := by
  refine ⟨h.os, h.output, fun i hi => ?_⟩
  rw [h.block i hi]
  split <;> simp_all

theorem ownsRow_block {w w' : World} {base : Nat} {e : TypeId} {size : Nat} {v : Value} {n : Nat} {xs : List Value} (h : w.ownsRow base e size v n xs) (hb : ∀ b, v.ownBlock = some b → w'.heap[b]? = w.heap[b]?) : w'.ownsRow base e size v n xs := by
  refine ⟨h.1, ?_⟩
  rcases h.2 with hn | ⟨g, cap, cur, rfl, hbs, hgg, rest⟩
  · exact .inl hn
  · exact .inr ⟨g, cap, cur, rfl, hbs, by rw [hb g rfl]; exact hgg, rest⟩

theorem Ord.kept {O base k : Nat} {E G : Nat → Nat} {bv : Value} {w w' : World} (h : Ord O base k E G bv w) (hs : w.heap.size ≤ w'.heap.size) (hO : w'.heap[O]? = w.heap[O]?)
    (hrow : ∀ b, bv.ownBlock = some b → w'.heap[b]? = w.heap[b]?) (hG : ∀ j, j < nb k → w'.heap[G j]? = w.heap[G j]?) : Ord O base k E G bv w' where
  lo := h.lo
  hb := Nat.le_trans h.hb hs
  ord := h.ord.of_block hO
  own := ownsRow_block h.own hrow
  rows := fun j hj => (h.rows j hj).of_block (hG j hj)
  low := h.low
  incr := h.incr
  nil := h.nil

/-- The entries are told by their first k numbers alone. -/
theorem Ord.congrE {O base k : Nat} {E E' G : Nat → Nat} {bv : Value} {w : World} (h : Ord O base k E G bv w) (e : ∀ i, i < k → E' i = E i) : Ord O base k E' G bv w where
  lo := h.lo
  hb := h.hb
  ord := h.ord
  own := h.own
  rows := fun j hj => (h.rows j hj).congr fun i hi => by
    simp only [ent]
    by_cases c : 1024 * j + i < k
    · rw [if_pos c, if_pos c, e _ c]
    · rw [if_neg c, if_neg c]
  low := h.low
  incr := h.incr
  nil := h.nil

/-- A fresh box came back: its block is the next one; nothing else has turned. -/
def Boxed (w : World) (e : Ending) (w' : World) : Prop :=
  e = .returned (.pointer (some ⟨w.heap.size, 0, none⟩)) ∧ Kept w w' ∧ w'.heap.size = w.heap.size + 1

set_option maxHeartbeats 400000 in
theorem entry_any (w : World) : Calls Try.prog 9 #[] w (Boxed w) := by
  go_enter Try.func9, Try.ntmps9
  go_wp2
  go_ret
  exact ⟨rfl, (Kept.refl w).alloc _, by simp⟩

set_option maxHeartbeats 400000 in
theorem order_any (w : World) : Calls Try.prog 8 #[] w fun e w' => e = .returned (.pointer (some ⟨w.heap.size, 0, none⟩)) ∧ w' = w.alloc (.cells #[.slice none 0 0, .int .i64 0] 63) := by
  go_enter Try.func8, Try.ntmps8
  go_wp2
  go_ret
  exact ⟨rfl, rfl⟩

set_option maxHeartbeats 400000 in
theorem push10_any (O base k x : Nat) (E G : Nat → Nat) (bv : Value) (w : World) (HX : Hid (E k = x)) (HO : Hid (Ord O base k E G bv w)) (hk : k < 65536) :
    Calls Try.prog 10 #[.pointer (some ⟨O, 0, none⟩), .pointer (some ⟨x, 0, none⟩)] w (PushedOne O base k E G bv w) := by
  go_enter Try.func10, Try.ntmps10
  go_wp2_with fail
  have hx := HX.out
  subst hx
  refine (push_any O base k E G bv w HO.out hk).mono ?_
  rintro e w' ⟨rfl, hp⟩
  have HP : Hid _ := hp
  clear hp
  go_wp2
  go_end0
  exact ⟨rfl, HP.out⟩

set_option maxHeartbeats 400000 in
theorem len_any (O : Nat) (n : Int) (w : World) (hc : w.cell? ⟨O, 1, none⟩ = some (.int .i64 n)) : Calls Try.prog 11 #[.pointer (some ⟨O, 0, none⟩)] w fun e w' => e = .returned (.int .i64 n) ∧ w' = w := by
  go_enter Try.func11, Try.ntmps11
  go_wp2
  go_ret
  exact ⟨rfl, rfl⟩

set_option maxHeartbeats 400000 in
theorem blocks_any (O n c : Nat) (ao : Option Addr) (w : World) (hc : w.cell? ⟨O, 0, none⟩ = some (.slice ao n c)) : Calls Try.prog 12 #[.pointer (some ⟨O, 0, none⟩)] w fun e w' => e = .returned (.slice ao n c) ∧ w' = w := by
  go_enter Try.func12, Try.ntmps12
  go_wp2
  go_ret
  exact ⟨rfl, rfl⟩
end Go.Proofs.Qxb6604750a
