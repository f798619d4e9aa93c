import Derived.Test.Qxb6604696aRows
import Derived.WalkKit
import Derived.WalkSpells
import Derived.WalkLawsBesides
import Derived.Deep.OwnRows
import Derived.Deep.LoopGhost
namespace Go.Proofs.Qxb6604696a
open Go.RowKit

theorem Try.cells9 : Try.prog.cellsOf 9 = 1 := by kernel_rfl
theorem Try.info9 : (Try.prog.info? 9).map (fun i => (i.zero, i.size, i.bytes)) = some (some (.string ⟨#[]⟩), 1, 16) := by kernel_rfl

/-- From ⟨b, o⟩ on the cells hold these texts, one a cell. -/
def Cells (w : World) (b o : Nat) (ss : List ByteArray) : Prop :=
  ∀ (j : Nat) x, ss[j]? = some x → w.cell? ⟨b, o + j, none⟩ = some (.string x)

/-- What is known of a slice of texts: its address where it has an element; its cells. -/
structure Texts (w : World) (a : Option Addr) (b o : Nat) (ss : List ByteArray) : Prop where
  addr : ss ≠ [] → a = some ⟨b, o, none⟩ ∧ b < w.heap.size
  cells : Cells w b o ss

def lens (ss : List ByteArray) : Nat := (ss.map (·.size)).sum

theorem lens_nil : lens [] = 0 := rfl
theorem lens_snoc (ss : List ByteArray) (s : ByteArray) : lens (ss ++ [s]) = lens ss + s.size := by simp [lens]
theorem take_snoc {α : Type} {ss : List α} {k : Nat} {s : α} (h : ss[k]? = some s) : ss.take (k + 1) = ss.take k ++ [s] := by
  obtain ⟨hk, rfl⟩ := List.getElem?_eq_some_iff.1 h
  rw [List.take_succ_eq_append_getElem hk]
theorem lens_succ {ss : List ByteArray} {k : Nat} {s : ByteArray} (h : ss[k]? = some s) : lens (ss.take (k + 1)) = lens (ss.take k) + s.size := by
  rw [take_snoc h, lens_snoc]

theorem Texts.at {w : World} {a : Option Addr} {b o : Nat} {ss : List ByteArray} (h : Texts w a b o ss) {k : Nat} (hk : k < ss.length) :
    ∃ s, Hid (ss[k]? = some s) ∧ a = some ⟨b, o, none⟩ ∧ w.cell? ⟨b, o + k, none⟩ = some (.string s) ∧ b < w.heap.size :=
  ⟨ss[k], List.getElem?_eq_getElem hk, (h.addr (by intro e; subst e; simp at hk)).1, h.cells k _ (List.getElem?_eq_getElem hk), (h.addr (by intro e; subst e; simp at hk)).2⟩

theorem Texts.below {w w' : World} {a : Option Addr} {b o : Nat} {ss : List ByteArray} (h : Texts w a b o ss) (hb : Below w.heap.size w w') : Texts w' a b o ss where
  addr := fun e => ⟨(h.addr e).1, Nat.lt_of_lt_of_le (h.addr e).2 hb.size⟩
  cells := fun j x hx => by
    have hne : ss ≠ [] := by intro e; subst e; simp at hx
    rw [hb.cell (p := ⟨b, o + j, none⟩) (h.addr hne).2]; exact h.cells j x hx

/-- One bool came back, the world stands, and of the bool this holds. -/
def GaveBool (p : Bool → Prop) (w : World) (e : Ending) (w' : World) : Prop := ∃ r : Bool, e = .returned (.bool r) ∧ w' = w ∧ p r

set_option maxHeartbeats 400000 in
theorem strbytes_any (a : Option Addr) (b o n c : Nat) (ss : List ByteArray) (w : World) (HN : Hid (ss.length = n)) (hn : n ≤ 1048576) (ht : Texts w a b o ss) :
    Calls Try.prog 11 #[.slice a n c] w fun e w' => ∃ m : Int, e = .returned (.int .i64 m) ∧ w' = w ∧ 0 ≤ m ∧ m ≤ 1048577 ∧ (m ≤ 1048576 → m = lens ss + 16 * n) := by
  have HT : Hid (Texts w a b o ss) := ht
  clear ht
  go_enter Try.func11, Try.ntmps11
  go_wp2
  go_loop [3, 4] (fun t i => ∃ k m : Nat, k ≤ n ∧ i = .int .i64 k ∧ t = .int .i64 m ∧ m ≤ 1048576 ∧ Hid (m = lens (ss.take k) + 16 * k)) (fun _ i => n - (intOf i).toNat)
  case atStart => exact ⟨0, 0, Nat.zero_le _, rfl, rfl, by omega, by simp [Hid, lens_nil]⟩
  case round =>
    obtain ⟨k, m, hk, rfl, rfl, hm, HM⟩ := hrel
    by_cases hlt : k < n
    · obtain ⟨s, HS, rfl, hc, _⟩ := HT.out.at (k := k) (by rw [HN.out]; exact hlt)
      go_wp2
      · go_ret
        exact ⟨_, rfl, rfl, by omega, by omega, fun h => by omega⟩
      · go_ret
        exact ⟨_, rfl, rfl, by omega, by omega, fun h => by omega⟩
      · go_round
        case rel => exact ⟨k + 1, m + (16 + s.size), by omega, by go_num, by go_num, by omega, by have := HM.out; rw [Hid, lens_succ HS.out]; omega⟩
        case measure => simp [intOf]; omega
    · obtain rfl : k = n := by omega
      go_wp2
      go_ret
      exact ⟨m, rfl, rfl, by omega, by omega, fun _ => by have := HM.out; rw [List.take_of_length_le (by rw [HN.out]; omega)] at this; omega⟩

set_option maxHeartbeats 400000 in
theorem bytes10_any (a : Option Addr) (b o n c : Nat) (ss : List ByteArray) (w : World) (HN : Hid (ss.length = n)) (hn : n ≤ maxLen) (ht : Texts w a b o ss) :
    Calls Try.prog 10 #[.slice a n c] w (GaveBool (fun r => r = true → n ≤ 1048576) w) := by
  have HT : Hid (Texts w a b o ss) := ht
  clear ht
  unfold maxLen at hn
  by_cases hbig : 1048576 < n
  · go_enter Try.func10, Try.ntmps10
    go_wp2
    go_ret
    exact ⟨_, rfl, rfl, fun h => by cases h⟩
  go_enter Try.func10, Try.ntmps10
  go_wp2
  go_loop [3, 4] (fun t i => ∃ k m : Nat, k ≤ n ∧ i = .int .i64 k ∧ t = .int .i64 m ∧ m ≤ 1048576) (fun _ i => n - (intOf i).toNat)
  case atStart => exact ⟨0, n, Nat.zero_le _, rfl, rfl, by omega⟩
  case round =>
    obtain ⟨k, m, hk, rfl, rfl, hm⟩ := hrel
    by_cases hlt : k < n
    · obtain ⟨s, HS, rfl, hc, _⟩ := HT.out.at (k := k) (by rw [HN.out]; exact hlt)
      go_wp2
      · go_ret
        exact ⟨_, rfl, rfl, fun h => by cases h⟩
      · go_ret
        exact ⟨_, rfl, rfl, fun h => by cases h⟩
      · go_round
        case rel => exact ⟨k + 1, m + s.size, by omega, by go_num, by go_num, by omega⟩
        case measure => simp [intOf]; omega
    · go_wp2
      go_ret
      exact ⟨_, rfl, rfl, fun _ => by omega⟩

set_option maxHeartbeats 400000 in
theorem clone_some (ad : Addr) (b o n c : Nat) (ss : List ByteArray) (w : World) (HN : Hid (ss.length = n)) (hn : n ≤ 1048576) (ht : Texts w (some ad) b o ss) :
    Calls Try.prog 12 #[.slice (some ad) n c] w fun e w' => e = .returned (.slice (some ⟨w.heap.size, 0, none⟩) n n) ∧ Below w.heap.size w w' ∧ w'.heap.size = w.heap.size + 1 ∧ Cells w' w.heap.size 0 ss := by
  have HT : Hid (Texts w (some ad) b o ss) := ht
  clear ht
  have hmk := run_make_row' (P := Try.prog) 23 9 (.string ⟨#[]⟩) 16 Try.underlying23 Try.info9 rfl .i64 .i64 n (by omega) (by omega)
  have hnil := fun wx => Lib.run_eql_slice_nil (P := Try.prog) wx 23 9 (some ad) n c 0 0 Try.underlying23
  go_enter Try.func12, Try.ntmps12
  go_wp2
  go_loopw [4] (fun i wr => ∃ k : Nat, k ≤ n ∧ i = .int .i64 k ∧ Hid (wr.rowIs w.heap.size 9 n (fun i => .string (if i < k then ss.getD i ⟨#[]⟩ else ⟨#[]⟩))) ∧ Hid (Below w.heap.size w wr) ∧ Hid (wr.heap.size = w.heap.size + 1)) (fun i _ => n - (intOf i).toNat)
  case atStart => exact ⟨0, Nat.zero_le _, rfl, by simpa [Hid] using World.rowIs_made w (.string ⟨#[]⟩) n 9, (Below.refl _ _).alloc (Nat.le_refl _) _, by simp [Hid]⟩
  case round =>
    obtain ⟨k, hk, rfl, HR, HB, HZ⟩ := hrel
    by_cases hlt : k < n
    · obtain ⟨s, HS, hadr, hc, hbs⟩ := HT.out.at (k := k) (by rw [HN.out]; exact hlt)
      obtain rfl : ad = ⟨b, o, none⟩ := by simpa using hadr
      clear hadr
      have hc' : wr.cell? ⟨b, o + k, none⟩ = some (.string s) := by rw [HB.out.cell (p := ⟨b, o + k, none⟩) hbs]; exact hc
      have hcell := HR.out.cell (i := k) hlt
      have hfr := HR.out.frozen k
      have HQ : Hid ((wr.setCell ⟨w.heap.size, k, none⟩ (.string s)).rowIs w.heap.size 9 n (fun i => .string (if i < k + 1 then ss.getD i ⟨#[]⟩ else ⟨#[]⟩))) := by
        refine (HR.out.set k (.string s)).congr fun i hi => ?_
        by_cases e : i = k
        · subst e; simp [List.getD, HS.out]
        · rw [if_neg e]
          by_cases e2 : i < k
          · rw [if_pos e2, if_pos (by omega)]
          · rw [if_neg e2, if_neg (by omega)]
      have HB2 : Hid (Below w.heap.size w (wr.setCell ⟨w.heap.size, k, none⟩ (.string s))) := HB.out.setCell (Nat.le_refl _) _
      have HZ2 : Hid ((wr.setCell ⟨w.heap.size, k, none⟩ (.string s)).heap.size = w.heap.size + 1) := by have := HZ.out; simpa [Hid] using this
      go_wp2
      go_roundw
      case rel => exact ⟨k + 1, by omega, by go_num, HQ, HB2, HZ2⟩
      case measure => simp [intOf]; omega
    · go_wp2
      go_ret
      refine ⟨rfl, HB.out, HZ.out, fun j x hx => ?_⟩
      have hj : j < ss.length := (List.getElem?_eq_some_iff.1 hx).1
      have := HR.out.cell (i := j) (by rw [← HN.out]; exact hj)
      rw [Nat.zero_add, this, if_pos (by have := HN.out; omega), List.getD, hx]; rfl

set_option maxHeartbeats 400000 in
theorem clone_none (n c : Nat) (w : World) :
    Calls Try.prog 12 #[.slice none n c] w fun e w' => e = .returned (.slice none 0 0) ∧ w' = w := by
  have hnil := fun wx => Lib.run_eql_slice_nil (P := Try.prog) wx 23 9 none n c 0 0 Try.underlying23
  go_enter Try.func12, Try.ntmps12
  go_wp2
  go_ret
  exact ⟨rfl, rfl⟩
end Go.Proofs.Qxb6604696a
