import Derived.Test.Qxb6604696aStrs
import Derived.Test.Qxb6604696aShelf
namespace Go.Proofs.Qxb6604696a
open Go.RowKit

theorem Try.info32 : (Try.prog.info? 32).map (fun i => (i.zero, i.size, i.bytes)) = some (some .nilIface, 1, 16) := by kernel_rfl

/-- The texts, a newline between each two. -/
def text (ss : List ByteArray) : ByteArray := ⟨(Lib.join (ss.map (·.data.toList)) [10]).toArray⟩

theorem lens_lib (ss : List ByteArray) : Lib.lens (ss.map (·.data.toList)) = lens ss := by
  simp only [Lib.lens, lens, List.map_map]
  congr 1

theorem join_le (ss : List ByteArray) : (Lib.join (ss.map (·.data.toList)) [10]).length ≤ lens ss + ss.length := by
  cases ss with
  | nil => simp [Lib.join_nil]
  | cons x r =>
    rw [List.map_cons, Lib.join_length]
    have := lens_lib (x :: r)
    rw [List.map_cons] at this
    rw [this]
    simp
    omega

set_option maxHeartbeats 400000 in
theorem text_any (e : Nat) (s : ByteArray) (w : World) (hc : w.cell? ⟨e, 0, none⟩ = some (.string s)) :
    Calls Try.prog 46 #[.pointer (some ⟨e, 0, none⟩)] w fun e w' => e = .returned (.string s) ∧ w' = w := by
  go_enter Try.func46, Try.ntmps46
  go_wp2
  go_ret
  exact ⟨rfl, rfl⟩

set_option maxHeartbeats 400000 in
theorem new_any (s : ByteArray) (w : World) :
    Calls Try.prog 17 #[.string s] w fun e w' => e = .returned (.iface 36 (.pointer (some ⟨w.heap.size, 0, none⟩))) ∧ w' = w.alloc (.cells #[.string s] 38) := by
  go_enter Try.func17, Try.ntmps17
  go_wp2
  go_ret
  exact ⟨rfl, rfl⟩

theorem method_error (a : Addr) (w : World) : (method 165 36 (.pointer (some a)) "Error").run Try.prog w = .ok (46, .pointer (some a)) w := by kernel_rfl

/-- What 'ZZfaultsText' has laid after k rounds: the row of the errors in the first new block, each error's text in a block of its own behind it. -/
structure Laid (w : World) (ss : List ByteArray) (n k : Nat) (wr : World) : Prop where
  row : wr.rowIs w.heap.size 32 n (fun i => if i < k then .iface 36 (.pointer (some ⟨w.heap.size + 1 + i, 0, none⟩)) else .nilIface)
  below : Below w.heap.size w wr
  size : wr.heap.size = w.heap.size + 1 + k
  errs : ∀ i, i < k → wr.cell? ⟨w.heap.size + 1 + i, 0, none⟩ = some (.string (ss.getD i ⟨#[]⟩))

theorem Laid.start (w : World) (ss : List ByteArray) (n : Nat) : Laid w ss n 0 (w.alloc (.cells (madeCells #[.nilIface] n) 32)) where
  row := by simpa using World.rowIs_made w .nilIface n 32
  below := (Below.refl _ _).alloc (Nat.le_refl _) _
  size := by simp
  errs := fun i hi => by omega

theorem Laid.step {w wr : World} {ss : List ByteArray} {n k : Nat} (h : Laid w ss n k wr) {s : ByteArray} (hs : ss[k]? = some s) :
    Laid w ss n (k + 1) ((wr.alloc (.cells #[.string s] 38)).setCell ⟨w.heap.size, k, none⟩ (.iface 36 (.pointer (some ⟨wr.heap.size, 0, none⟩)))) where
  row := by
    refine ((h.row.alloc _).set k _).congr fun i hi => ?_
    by_cases e : i = k
    · subst e; simp [h.size]
    · rw [if_neg e]
      by_cases e2 : i < k
      · rw [if_pos e2, if_pos (by omega)]
      · rw [if_neg e2, if_neg (by omega)]
  below := (h.below.alloc (by have := h.size; omega) _).setCell (Nat.le_refl _) _
  size := by have := h.size; simp; omega
  errs := fun i hi => by
    have hz := h.size
    have hne : (⟨w.heap.size, k, none⟩ : Addr) ≠ ⟨w.heap.size + 1 + i, 0, none⟩ := by intro e; have := congrArg Addr.block e; simp at this; omega
    rw [World.cell?_setCell_other _ _ _ _ hne]
    by_cases e : i = k
    · subst e
      rw [World.cell?_alloc_at _ _ _ _ (by omega)]
      simp [List.getD, hs]
    · rw [World.cell?_alloc_past _ _ _ (by omega)]
      exact h.errs i (by omega)

set_option maxHeartbeats 400000 in
theorem error_any (B n : Nat) (ss : List ByteArray) (w : World) (HN : Hid (ss.length = n)) (hn : n ≤ 1048576)
    (HJ : Hid (∀ (bk : Nat) (wx : World), Cells wx bk 0 ss → bk < wx.heap.size → Calls Try.prog 21 #[.slice (some ⟨bk, 0, none⟩) n n, .string ⟨#[10]⟩] wx fun e w' => e = .returned (.string (text ss)) ∧ Below wx.heap.size wx w'))
    (HF : Hid (∀ i, i < n → w.cell? ⟨B, i, none⟩ = some (.iface 36 (.pointer (some ⟨B + 1 + i, 0, none⟩))) ∧ w.cell? ⟨B + 1 + i, 0, none⟩ = some (.string (ss.getD i ⟨#[]⟩)))) (HS : Hid (B + 1 + n ≤ w.heap.size)) :
    Calls Try.prog 18 #[.slice (some ⟨B, 0, none⟩) n n] w fun e w' => e = .returned (.string (text ss)) ∧ Below w.heap.size w w' := by
  have hmk := run_make_row' (P := Try.prog) 23 9 (.string ⟨#[]⟩) 16 Try.underlying23 Try.info9 rfl .i64 .i64 n (by omega) (by omega)
  have hme := method_error
  go_enter Try.func18, Try.ntmps18
  go_wp2
  go_loopw [4, 5, 11] (fun i er j wr => ∃ k : Nat, k ≤ n ∧ j = .int .i64 k ∧ Hid (wr.rowIs w.heap.size 9 n (fun i => .string (if i < k then ss.getD i ⟨#[]⟩ else ⟨#[]⟩))) ∧ Hid (Below w.heap.size w wr)) (fun _ _ j _ => n - (intOf j).toNat)
  case atStart => exact ⟨0, Nat.zero_le _, rfl, by simpa [Hid] using World.rowIs_made w (.string ⟨#[]⟩) n 9, (Below.refl _ _).alloc (Nat.le_refl _) _⟩
  case round =>
    obtain ⟨k, hk, rfl, HR, HB⟩ := hrel
    by_cases hlt : k < n
    · have hsz := HS.out
      obtain ⟨s, hs⟩ : ∃ s, s = ss.getD k ⟨#[]⟩ := ⟨_, rfl⟩
      have hc1 : wr.cell? ⟨B, k, none⟩ = some (.iface 36 (.pointer (some ⟨B + 1 + k, 0, none⟩))) := by rw [HB.out.cell (p := ⟨B, k, none⟩) (by simp; omega)]; exact (HF.out k hlt).1
      have hc2 : wr.cell? ⟨B + 1 + k, 0, none⟩ = some (.string s) := by rw [hs, HB.out.cell (p := ⟨B + 1 + k, 0, none⟩) (by simp; omega)]; exact (HF.out k hlt).2
      have hcell := HR.out.cell (i := k) hlt
      have hfr := HR.out.frozen k
      have HQ : Hid ((wr.setCell ⟨w.heap.size, k, none⟩ (.string s)).rowIs w.heap.size 9 n (fun i => .string (if i < k + 1 then ss.getD i ⟨#[]⟩ else ⟨#[]⟩))) := by
        refine (HR.out.set k (.string s)).congr fun i hi => ?_
        by_cases e : i = k
        · subst e; simp [hs]
        · rw [if_neg e]
          by_cases e2 : i < k
          · rw [if_pos e2, if_pos (by omega)]
          · rw [if_neg e2, if_neg (by omega)]
      have HB2 : Hid (Below w.heap.size w (wr.setCell ⟨w.heap.size, k, none⟩ (.string s))) := HB.out.setCell (Nat.le_refl _) _
      clear hs
      go_wp2_with (go_at_call 46; refine (text_any _ _ _ hc2).mono ?_; rintro e w' ⟨rfl, rfl⟩)
      go_roundw
      case rel => exact ⟨k + 1, by omega, by go_num, HQ, HB2⟩
      case measure => simp [intOf]; omega
    · go_wp2_with fail
      have hx : Cells wr w.heap.size 0 ss := fun j x hx => by
        have hj : j < ss.length := (List.getElem?_eq_some_iff.1 hx).1
        have := HR.out.cell (i := j) (by rw [← HN.out]; exact hj)
        rw [Nat.zero_add, this, if_pos (by have := HN.out; omega), List.getD, hx]; rfl
      refine (HJ.out _ _ hx HR.out.lt).mono ?_
      rintro e w' ⟨rfl, hb⟩
      have HE : Hid (Below w.heap.size w w') := HB.out.trans (hb.mono HB.out.size)
      clear hb hx
      go_wp2
      go_ret
      exact ⟨rfl, HE⟩

set_option maxHeartbeats 400000 in
theorem faults_core (a : Option Addr) (b o n c : Nat) (ss : List ByteArray) (w : World) (HN : Hid (ss.length = n)) (hn : n ≤ 1048576) (ht : Texts w a b o ss)
    (HJ : Hid (∀ (bk : Nat) (wx : World), Cells wx bk 0 ss → bk < wx.heap.size → Calls Try.prog 21 #[.slice (some ⟨bk, 0, none⟩) n n, .string ⟨#[10]⟩] wx fun e w' => e = .returned (.string (text ss)) ∧ Below wx.heap.size wx w')) :
    Calls Try.prog 13 #[.slice a n c] w fun e w' => e = .returned (.string (text ss)) ∧ Below w.heap.size w w' := by
  have HT : Hid (Texts w a b o ss) := ht
  clear ht
  have hmk := run_make_row' (P := Try.prog) 30 32 .nilIface 16 Try.underlying30 Try.info32 rfl .i64 .i64 n (by omega) (by omega)
  go_enter Try.func13, Try.ntmps13
  go_wp2
  go_loopw [4, 10] (fun i j wr => ∃ k : Nat, k ≤ n ∧ j = .int .i64 k ∧ Hid (Laid w ss n k wr)) (fun _ j _ => n - (intOf j).toNat)
  case atStart => exact ⟨0, Nat.zero_le _, rfl, Laid.start w ss n⟩
  case round =>
    obtain ⟨k, hk, rfl, HL⟩ := hrel
    by_cases hlt : k < n
    · obtain ⟨s, HS, rfl, hc, hbs⟩ := HT.out.at (k := k) (by rw [HN.out]; exact hlt)
      have hc' : wr.cell? ⟨b, o + k, none⟩ = some (.string s) := by rw [HL.out.below.cell (p := ⟨b, o + k, none⟩) hbs]; exact hc
      have hcell : ∀ ob, (wr.alloc ob).cell? ⟨w.heap.size, k, none⟩ = some .nilIface := fun ob => by
        rw [(HL.out.row.alloc ob).cell (i := k) hlt]; simp
      have hfr : ∀ ob, (wr.alloc ob).frozen? ⟨w.heap.size, k, none⟩ = false := fun ob => (HL.out.row.alloc ob).frozen k
      have HQ : Hid _ := HL.out.step HS.out
      go_wp2_with (go_at_call 17; refine (new_any _ _).mono ?_; rintro e w' ⟨rfl, rfl⟩)
      go_roundw
      case rel => exact ⟨k + 1, by omega, by go_num, HQ⟩
      case measure => simp [intOf]; omega
    · obtain rfl : k = n := by omega
      have HF : Hid (∀ i, i < k → wr.cell? ⟨w.heap.size, i, none⟩ = some (.iface 36 (.pointer (some ⟨w.heap.size + 1 + i, 0, none⟩))) ∧ wr.cell? ⟨w.heap.size + 1 + i, 0, none⟩ = some (.string (ss.getD i ⟨#[]⟩))) :=
        fun i hi => ⟨by rw [HL.out.row.cell hi, if_pos hi], HL.out.errs i hi⟩
      have HZ : Hid (w.heap.size + 1 + k ≤ wr.heap.size) := by rw [HL.out.size]; exact Nat.le_refl _
      go_wp2_with fail
      refine (error_any _ _ ss _ HN hn HJ HF HZ).mono ?_
      rintro e w' ⟨rfl, hb⟩
      have HE : Hid (Below w.heap.size w w') := HL.out.below.trans (hb.mono HL.out.below.size)
      clear hb
      go_wp2
      go_ret
      exact ⟨rfl, HE⟩
/-- 'ZZfaultsText': the texts with a newline between each two; nothing that was there has turned. -/
theorem faults_any (a : Option Addr) (b o n c : Nat) (ss : List ByteArray) (w : World) (HN : Hid (ss.length = n)) (hn : n ≤ 1048576) (hl : lens ss ≤ 1048576) (ht : Texts w a b o ss) :
    Calls Try.prog 13 #[.slice a n c] w fun e w' => e = .returned (.string (text ss)) ∧ Below w.heap.size w w' := by
  refine faults_core a b o n c ss w HN hn ht fun bk wx hc hb => ?_
  have hN : ss.length = n := HN
  subst hN
  exact Try.strings_Join bk 0 ss.length ss ⟨#[10]⟩ wx hc hb (by omega) (Nat.le_refl _) (Nat.le_trans (join_le ss) (by omega))
end Go.Proofs.Qxb6604696a
