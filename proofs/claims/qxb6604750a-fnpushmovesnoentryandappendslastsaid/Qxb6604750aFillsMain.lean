import Derived.Test.Qxb6604750aFills
import Derived.Lib.Builder
namespace Go.Proofs.Qxb6604750a
open Go.RowKit
set_option linter.unusedSimpArgs false
set_option linter.unusedVariables false

/-- Of the type's row of the table this alone is used: it is there. -/
theorem info74_some : ∃ j, Try.prog.info? 74 = some j := by
  have h : (Try.prog.info? 74).isSome = true := by kernel_rfl
  exact Option.isSome_iff_exists.1 h

theorem neq_same (a : Addr) (w : World) : (binOp .neq 25 (.pointer (some a)) (.pointer (some a))).run Try.prog w = .ok (.bool false) w := by
  obtain ⟨j, hj⟩ := info74_some
  exact Lib.run_neq_ptr_same w a Try.underlying25 hj

/-- j entries have been made, kept in the list 'es' and pushed. -/
def Filling (w : World) (k j : Nat) (wr : World) : Prop :=
  ∃ E G bv, Ord w.heap.size (w.heap.size + 2) j E G bv wr ∧ wr.rowIs (w.heap.size + 1) 25 k (fun i => if i < j then .pointer (some ⟨E i, 0, none⟩) else .pointer none) ∧ Kept w wr

theorem Filling.start (w : World) (k : Nat) : Filling w k 0 ((w.alloc (.cells #[.slice none 0 0, .int .i64 0] 63)).alloc (.cells (madeCells #[.pointer none] k) 25)) := by
  refine ⟨fun _ => 0, fun _ => 0, .slice none 0 0, ?_, ?_, ((Kept.refl w).alloc _).alloc _⟩
  · have n0 : nb 0 = 0 := rfl
    refine ⟨by omega, by simp, ?_, ?_, fun j hj => by rw [n0] at hj; omega, fun j hj => by rw [n0] at hj; omega, fun i j _ hj => by rw [n0] at hj; omega, fun _ => rfl⟩
    · refine ((World.rowIs_alloc w #[.slice none 0 0, .int .i64 0] 63 (fun i => if i = 0 then .slice none 0 0 else .int .i64 ((0 : Nat) : Int)) ?_).alloc _)
      intro i hi
      match i, hi with
      | 0, _ => rfl
      | 1, _ => rfl
    · rw [n0]; exact World.ownsRow_nil _ _ _ _
  · have h := World.rowIs_made (w.alloc (.cells #[.slice none 0 0, .int .i64 0] 63)) (.pointer none) k 25
    have e : (w.alloc (.cells #[.slice none 0 0, .int .i64 0] 63)).heap.size = w.heap.size + 1 := by simp
    rw [e] at h
    simpa using h

/-- The entry of round j, made and kept in the list: all is ready for its push. -/
theorem Filling.ready {w wr w1 : World} {k j : Nat} (h : Filling w k j wr) (hj : j < k) (hk : Kept wr w1) (hz : w1.heap.size = wr.heap.size + 1) :
    w1.cell? ⟨w.heap.size + 1, j, none⟩ = some (.pointer none) ∧ w1.frozen? ⟨w.heap.size + 1, j, none⟩ = false ∧
    ∃ E G bv, E j = wr.heap.size ∧ Ord w.heap.size (w.heap.size + 2) j E G bv (w1.setCell ⟨w.heap.size + 1, j, none⟩ (.pointer (some ⟨wr.heap.size, 0, none⟩))) ∧
      (w1.setCell ⟨w.heap.size + 1, j, none⟩ (.pointer (some ⟨wr.heap.size, 0, none⟩))).rowIs (w.heap.size + 1) 25 k (fun i => if i < j + 1 then .pointer (some ⟨E i, 0, none⟩) else .pointer none) ∧
      Kept w (w1.setCell ⟨w.heap.size + 1, j, none⟩ (.pointer (some ⟨wr.heap.size, 0, none⟩))) := by
  obtain ⟨E, G, bv, ho, hr, hkw⟩ := h
  have hr1 : w1.rowIs (w.heap.size + 1) 25 k _ := hr.of_block (hk.block _ hr.lt)
  have ho1 : Ord w.heap.size (w.heap.size + 2) j E G bv w1 := ho.kept hk.size (hk.block _ ho.ord.lt) (fun b hb => hk.block b (ho.own.lt b hb).2) (fun i hi => hk.block _ (ho.rows i hi).lt)
  refine ⟨by rw [hr1.cell (i := j) hj, if_neg (by omega)], hr1.frozen j, fun i => if i = j then wr.heap.size else E i, G, bv, by simp, ?_, ?_, (hkw.trans hk).setCell (by show w.heap.size ≤ w.heap.size + 1; omega) _⟩
  · refine (ho1.kept (by simp) (Below.heap_setCell _ _ _ _ (by show w.heap.size ≠ w.heap.size + 1; omega)) (fun b hb => Below.heap_setCell _ _ _ _ ?_) (fun i hi => Below.heap_setCell _ _ _ _ ?_)).congrE fun i hi => by rw [if_neg (by omega)]
    · have := (ho1.own.lt b hb).1; show b ≠ w.heap.size + 1; omega
    · have := ho1.low i hi; show G i ≠ w.heap.size + 1; omega
  · refine (hr1.set j _).congr fun i hi => ?_
    by_cases e : i = j
    · subst e; simp
    · rw [if_neg e]
      by_cases e2 : i < j
      · rw [if_pos e2, if_pos (by omega)]; simp [e]
      · rw [if_neg e2, if_neg (by omega)]

/-- Behind the push: the next round's state, and the count. -/
theorem Filling.next {w w2 w3 : World} {k j : Nat} {E G : Nat → Nat} {bv : Value} (ho : Ord w.heap.size (w.heap.size + 2) j E G bv w2)
    (hr : w2.rowIs (w.heap.size + 1) 25 k (fun i => if i < j + 1 then .pointer (some ⟨E i, 0, none⟩) else .pointer none)) (hk : Kept w w2)
    (hp : ∃ bv' G', Ord w.heap.size (w.heap.size + 2) (j + 1) E G' bv' w3 ∧ Spared w.heap.size bv G (nb j) w2 w3 ∧ ∀ i, i < nb j → G' i = G i) :
    Filling w k (j + 1) w3 ∧ w3.cell? ⟨w.heap.size, 1, none⟩ = some (.int .i64 ((j : Int) + 1)) := by
  obtain ⟨bv', G', ho', hs, _⟩ := hp
  have own := ho.own.lt
  refine ⟨⟨E, G', bv', ho', hr.of_block (hs.block _ hr.lt (by omega) (fun e => by have := (own _ e).1; omega) (fun i hi e => by have := ho.low i hi; omega)), ?_⟩, ?_⟩
  · exact ⟨hs.os.trans hk.os, hs.output.trans hk.output, Nat.le_trans hk.size hs.size, fun b hb => by
      rw [hs.block b (Nat.lt_of_lt_of_le hb hk.size) (by omega) (fun e => by have := (own _ e).1; omega) (fun i hi e => by have := ho.low i hi; omega)]
      exact hk.block b hb⟩
  · have := ho'.cells.2.2.1
    rw [this]; simp

set_option maxHeartbeats 2000000 in
theorem fills_any (k : Nat) (w : World) (hk : k ≤ 65536) :
    Calls Try.prog 3 #[.int .i64 (k : Int)] w fun e w' => e = .returned (.bool true) ∧ Kept w w' := by
  have hmk := run_make_row' (P := Try.prog) 24 25 (.pointer none) 8 Try.underlying24 Try.info25 rfl .i64 .i64 k (by omega) (by omega)
  have hneq := neq_same
  go_enter Try.func3, Try.ntmps3
  go_wp2_with (go_at_call 8; refine (order_any _).mono ?_; rintro e w' ⟨rfl, rfl⟩)
  go_loopw [2, 5, 6] (fun r i e wr => ∃ j : Nat, j ≤ k ∧ i = .int .i64 j ∧ Hid (Filling w k j wr)) (fun _ i _ _ => k - (intOf i).toNat)
  case atStart => exact ⟨0, Nat.zero_le _, rfl, Filling.start w k⟩
  case round =>
    obtain ⟨j, hj, rfl, HF⟩ := hrel
    by_cases hlt : j < k
    · go_wp2_with fail
      refine (entry_any wr).mono ?_
      rintro e w1 ⟨rfl, hk1, hz1⟩
      obtain ⟨q1, q2, E, G, bv, hE, hO, hR, hK⟩ := HF.out.ready hlt hk1 hz1
      have HE : Hid _ := hE
      have HO : Hid _ := hO
      have HR : Hid _ := hR
      have HK : Hid _ := hK
      clear hk1 hz1 hE hO hR hK
      go_wp2_with fail
      refine (push10_any w.heap.size (w.heap.size + 2) j wr.heap.size E G bv _ HE HO (by omega)).mono ?_
      rintro e w3 ⟨rfl, hp⟩
      obtain ⟨hN, hc⟩ := Filling.next HO.out HR.out HK.out hp
      have HN : Hid _ := hN
      clear hp hN HO HR HK HE HF q1 q2
      go_wp2_with (go_at_call 11; refine (len_any _ _ _ hc).mono ?_; rintro e w' ⟨rfl, rfl⟩)
      go_roundw
      case rel => exact ⟨j + 1, by omega, by go_num, HN⟩
      case measure => simp [intOf]; omega
    · obtain rfl : j = k := by omega
      obtain ⟨E, G, bv, hO, hR, hK⟩ := HF.out
      have HO : Hid (Ord w.heap.size (w.heap.size + 2) j E G bv wr) := hO
      have HR : Hid (wr.rowIs (w.heap.size + 1) 25 j (fun i => if i < j then .pointer (some ⟨E i, 0, none⟩) else .pointer none)) := hR
      have HK : Hid (Kept w wr) := hK
      obtain ⟨n, hn⟩ : ∃ n, n = nb j := ⟨_, rfl⟩
      have hn1 : 1024 * n < j + 1024 := by rw [hn]; unfold nb; omega
      have hn2 : j ≤ 1024 * n := by rw [hn]; unfold nb; omega
      have HN : Hid (n = nb j) := hn
      obtain ⟨ao, cap, hbv, hao⟩ : ∃ ao cap, bv = .slice ao n cap ∧ (0 < n → ∃ g, ao = some ⟨g, 0, none⟩) := by
        by_cases h0 : 0 < n
        · obtain ⟨g, cap, hbv, _⟩ := hO.own.form (by omega)
          exact ⟨_, cap, by rw [hbv, hn], fun _ => ⟨g, rfl⟩⟩
        · have hj0 : j = 0 := by omega
          exact ⟨none, 0, by rw [hO.nil hj0, show n = 0 by omega], fun h => absurd h h0⟩
      subst hbv
      have HA : Hid (0 < n → ∃ g, ao = some ⟨g, 0, none⟩) := hao
      have c0 := hO.cells.1
      clear hO hR hK hn hao HF
      have hnb : ((n : Int) != ((j : Int) + 1024 - 1) / 1024) = false := by
        have : (n : Int) = ((j : Int) + 1024 - 1) / 1024 := by omega
        rw [← this]; simp
      go_wp2_with (go_at_call 12; refine (blocks_any _ _ _ _ _ c0).mono ?_; rintro e w' ⟨rfl, rfl⟩)
      go_loop [2, 8, 9] (fun r i s => ∃ q : Nat, q ≤ n ∧ i = .int .i64 q) (fun _ i _ => n - (intOf i).toNat)
      case atStart => exact ⟨0, Nat.zero_le _, rfl⟩
      case round =>
        obtain ⟨q, hq, rfl⟩ := hrel
        by_cases hqn : q < n
        · obtain ⟨g, rfl⟩ := HA.out (by omega)
          obtain ⟨L, hL⟩ : ∃ L, L = min 1024 (j - 1024 * q) := ⟨_, rfl⟩
          have hc : w'.cell? ⟨g, q, none⟩ = some (.slice (some ⟨G q, 0, none⟩) L 1024) := by
            have hown := HO.out.own
            rw [← HN.out] at hown
            rw [hown.cellAt q (by omega)]
            simp [slv, hqn, hL]
          by_cases hlast : q + 1 = n
          · have t1 : ((q : Int) == (n : Int) - 1) = true := by simp; omega
            have t2 : ((L : Int) != (j : Int) - 1024 * (q : Int)) = false := by simp; omega
            clear hL
            go_wp2
            go_round
            case rel => exact ⟨q + 1, by omega, by go_num⟩
            case measure => simp [intOf]; omega
          · have t1 : ((q : Int) == (n : Int) - 1) = false := by simp; omega
            have t2 : ((L : Int) != 1024) = false := by simp; omega
            clear hL
            go_wp2
            go_round
            case rel => exact ⟨q + 1, by omega, by go_num⟩
            case measure => simp [intOf]; omega
        · go_wp2
          go_loopw [2, 10] (fun r i w3 => ∃ x : Nat, x ≤ j ∧ i = .int .i64 x ∧ Hid (w3.Alike w')) (fun _ i _ => j - (intOf i).toNat)
          case atStart => exact ⟨0, Nat.zero_le _, rfl, rfl, rfl, rfl⟩
          case round =>
            obtain ⟨x, hx, rfl, HL⟩ := hrel
            by_cases hxj : x < j
            · obtain ⟨g, rfl⟩ := HA.out (by omega)
              have hp : x / 1024 < n := by omega
              obtain ⟨L, hL⟩ : ∃ L, L = min 1024 (j - 1024 * (x / 1024)) := ⟨_, rfl⟩
              have hc1 : wr.cell? ⟨g, x / 1024, none⟩ = some (.slice (some ⟨G (x / 1024), 0, none⟩) L 1024) := by
                have hown := HO.out.own
                rw [← HN.out] at hown
                rw [HL.out.cell, hown.cellAt (x / 1024) (by omega)]
                simp [slv, hp, hL]
              have hc2 : wr.cell? ⟨G (x / 1024), x % 1024, none⟩ = some (.pointer (some ⟨E x, 0, none⟩)) := by
                rw [HL.out.cell, (HO.out.rows (x / 1024) (by rw [← HN.out]; exact hp)).cell (i := x % 1024) (by omega)]
                have e : 1024 * (x / 1024) + x % 1024 = x := by omega
                simp only [ent, e, if_pos hxj]
              have hc3 : wr.cell? ⟨w.heap.size + 1, x, none⟩ = some (.pointer (some ⟨E x, 0, none⟩)) := by
                rw [HL.out.cell, HR.out.cell (i := x) hxj, if_pos hxj]
              have hr1 : x % 1024 < L := by omega
              have hi1 : (x : Int) / 1024 < (n : Int) := by omega
              have hi2 : (x : Int) % 1024 < (L : Int) := by omega
              clear hL
              go_wp2
              go_quiet (fail)
              go_wp2
              go_roundw
              case rel => exact ⟨x + 1, by omega, by go_num, World.Alike.trans (World.drewN_alike _ _) HL.out⟩
              case measure => simp [intOf]; omega
            · go_wp2
              go_ret
              exact ⟨rfl, HK.out.alike HL.out⟩
end Go.Proofs.Qxb6604750a
