import Derived.Test.Qxb6604750aMoves
namespace Go.Proofs.Qxb6604750a
open Go.RowKit
set_option linter.unusedSimpArgs false
set_option linter.unusedVariables false

set_option maxRecDepth 100000 in
set_option maxHeartbeats 4000000 in
theorem moves_any (k : Nat) (w : World) (hk : k < 65536) :
    Calls Try.prog 4 #[.int .i64 (k : Int)] w fun e w' => e = .returned (.bool true) ∧ Kept w w' := by
  have hmk := run_make_row' (P := Try.prog) 24 25 (.pointer none) 8 Try.underlying24 Try.info25 rfl .i64 .i64 k (by omega) (by omega)
  go_enter Try.func4, Try.ntmps4
  go_wp2_with (go_at_call 8; refine (order_any _).mono ?_; rintro e w' ⟨rfl, rfl⟩)
  go_loopw [5, 6] (fun i e wr => ∃ j : Nat, j ≤ k ∧ i = .int .i64 j ∧ Hid (Filling w k j wr)) (fun i _ _ => k - (intOf i).toNat)
  case atStart => exact ⟨0, Nat.zero_le _, rfl, Filling.start w k⟩
  case round =>
    obtain ⟨j, hj, rfl, HF⟩ := hrel
    by_cases hlt : j < k
    · go_wp2_with fail
      refine (entry_any wr).mono ?_
      rintro e w1 ⟨rfl, hk1, hz1⟩
      obtain ⟨q1, q2, E, G, bv, hE, hO, hR, hK⟩ := HF.out.ready hlt hk1 hz1
      have HE : Hid _ := hE
      have HO : Hid _ := hO
      have HR : Hid _ := hR
      have HK : Hid _ := hK
      clear hk1 hz1 hE hO hR hK
      go_wp2_with fail
      refine (push10_any w.heap.size (w.heap.size + 2) j wr.heap.size E G bv _ HE HO (by omega)).mono ?_
      rintro e w3 ⟨rfl, hp⟩
      obtain ⟨hN, hc⟩ := Filling.next HO.out HR.out HK.out hp
      have HN : Hid _ := hN
      clear hp hN HO HR HK HE HF q1 q2 hc
      go_wp2
      go_roundw
      case rel => exact ⟨j + 1, by omega, by go_num, HN⟩
      case measure => simp [intOf]; omega
    · obtain rfl : j = k := by omega
      obtain ⟨E, G, bv, hO, hR, hK⟩ := HF.out
      obtain ⟨n, hn⟩ : ∃ n, n = nb j := ⟨_, rfl⟩
      have hn1 : 1024 * n < j + 1024 := by rw [hn]; unfold nb; omega
      have hn2 : j ≤ 1024 * n := by rw [hn]; unfold nb; omega
      have HN : Hid (n = nb j) := hn
      obtain ⟨ao, cap, hbv, hao⟩ : ∃ ao cap, bv = .slice ao n cap ∧ (0 < n → ∃ g, ao = some ⟨g, 0, none⟩) := by
        by_cases h0 : 0 < n
        · obtain ⟨g, cap, hbv, _⟩ := hO.own.form (by omega)
          exact ⟨_, cap, by rw [hbv, hn], fun _ => ⟨g, rfl⟩⟩
        · have hj0 : j = 0 := by omega
          exact ⟨none, 0, by rw [hO.nil hj0, show n = 0 by omega], fun h => absurd h h0⟩
      subst hbv
      have HA : Hid (0 < n → ∃ g, ao = some ⟨g, 0, none⟩) := hao
      have c0 := hO.cells.1
      have HS0 : Hid (Snap w j n wr.heap.size E G (.slice ao n cap) 0 (wr.alloc (.cells (madeCells #[.slice none 0 0] n) 24))) := Snap.start hO hR hK
      clear hO hR hK hn hao HF hmk
      have hmk2 := run_make_row' (P := Try.prog) 29 24 (.slice none 0 0) 24 Try.underlying29 Try.info24 rfl .i64 .i64 n (by omega) (by omega)
      go_wp2_with (go_at_call 12; refine (blocks_any _ _ _ _ _ c0).mono ?_; rintro e w' ⟨rfl, rfl⟩)
      obtain ⟨S, hS⟩ : ∃ S, S = w'.heap.size := ⟨_, rfl⟩
      rw [← hS] at HS0
      rw [← hS]
      go_loopw [9] (fun i w2 => ∃ q : Nat, q ≤ n ∧ i = .int .i64 q ∧ Hid (Snap w j n S E G (.slice ao n cap) q w2)) (fun i _ => n - (intOf i).toNat)
      case atStart => exact ⟨0, Nat.zero_le _, rfl, HS0⟩
      case round =>
        obtain ⟨q, hq, rfl, HQ⟩ := hrel
        clear HS0 hS
        by_cases hqn : q < n
        · obtain ⟨g, rfl⟩ := HA.out (by omega)
          obtain ⟨L, hL⟩ : ∃ L, L = min 1024 (j - 1024 * q) := ⟨_, rfl⟩
          have hc : wr.cell? ⟨g, q, none⟩ = some (.slice (some ⟨G q, 0, none⟩) L 1024) := by
            have hown := HQ.out.ord.own
            rw [← HN.out] at hown
            rw [hown.cellAt q (by omega)]
            simp [slv, hqn, hL]
          have hs1 := HQ.out.snap.cell (i := q) hqn
          have hs2 := HQ.out.snap.frozen q
          have HQ2 : Hid (Snap w j n S E G (.slice (some ⟨g, 0, none⟩) n cap) (q + 1) (wr.setCell ⟨S, q, none⟩ (.slice (some ⟨G q, 0, none⟩) L 1024))) := HQ.out.step (by rw [slv, hL])
          clear hL
          go_wp2
          go_roundw
          case rel => exact ⟨q + 1, by omega, by go_num, HQ2⟩
          case measure => simp [intOf]; omega
        · obtain rfl : q = n := by omega
          go_wp2_with fail
          refine (entry_any wr).mono ?_
          rintro e w4 ⟨rfl, hk4, hz4⟩
          obtain ⟨E', hE, hSn⟩ := HQ.out.ready hk4
          have HE : Hid (E' j = wr.heap.size) := hE
          have HO : Hid (Ord w.heap.size (w.heap.size + 2) j E' G (.slice ao q cap) w4) := hSn.ord
          have HSn : Hid (Snap w j (nb j) S E' G (.slice ao q cap) (nb j) w4) := by rw [← HN.out]; exact hSn
          clear hk4 hz4 hE hSn HQ
          go_wp2_with fail
          refine (push10_any w.heap.size (w.heap.size + 2) j wr.heap.size E' G _ _ HE HO (by omega)).mono ?_
          rintro e w5 ⟨rfl, hp⟩
          obtain ⟨bv', G', hD⟩ := HSn.out.pushed hp
          obtain ⟨g, cap', rfl⟩ := hD.form
          have HD : Hid _ := hD
          obtain ⟨m, hm⟩ : ∃ m, m = nb (j + 1) := ⟨_, rfl⟩
          have hm1 : 1024 * m < j + 1 + 1024 := by rw [hm]; unfold nb; omega
          have hm2 : j + 1 ≤ 1024 * m := by rw [hm]; unfold nb; omega
          have d0 := hD.ord.cells.1
          have d1 := hD.ord.cells.2.2.1
          rw [← hm] at d0
          have d1' : w5.cell? ⟨w.heap.size, 1, none⟩ = some (.int .i64 ((j : Int) + 1)) := by rw [d1]; simp
          have HM : Hid (m = nb (j + 1)) := hm
          clear hp hD HSn HO d1 hm
          have hmb : ((m : Int) != ((j : Int) + 1024) / 1024) = false := by
            have : (m : Int) = ((j : Int) + 1024) / 1024 := by omega
            rw [← this]; simp
          go_wp2_with (first | (go_at_call 12; refine (blocks_any _ _ _ _ _ d0).mono ?_; rintro e w' ⟨rfl, rfl⟩) | (go_at_call 11; refine (len_any _ _ _ d1').mono ?_; rintro e w' ⟨rfl, rfl⟩))
          have hneq := neq_same
          have hneq2 := neq_same32
          go_loop [2, 12, 13] (fun r i s => ∃ y : Nat, y ≤ m ∧ i = .int .i64 y) (fun _ i _ => m - (intOf i).toNat)
          case atStart => exact ⟨0, Nat.zero_le _, rfl⟩
          case round =>
            obtain ⟨y, hy, rfl⟩ := hrel
            by_cases hym : y < m
            · obtain ⟨L, hL⟩ : ∃ L, L = min 1024 (j + 1 - 1024 * y) := ⟨_, rfl⟩
              have hc : w'.cell? ⟨g, y, none⟩ = some (.slice (some ⟨G' y, 0, none⟩) L 1024) := by rw [hL]; exact HD.out.blk y (by rw [← HM.out]; exact hym)
              by_cases hlast : y + 1 = m
              · have t1 : ((y : Int) == (m : Int) - 1) = true := by simp; omega
                have t2 : ((L : Int) != (j : Int) + 1 - 1024 * (y : Int)) = false := by simp; omega
                clear hL
                go_wp2
                go_round
                case rel => exact ⟨y + 1, by omega, by go_num⟩
                case measure => simp [intOf]; omega
              · have t1 : ((y : Int) == (m : Int) - 1) = false := by simp; omega
                have t2 : ((L : Int) != 1024) = false := by simp; omega
                clear hL
                go_wp2
                go_round
                case rel => exact ⟨y + 1, by omega, by go_num⟩
                case measure => simp [intOf]; omega
            · have hp : j / 1024 < m := by omega
              obtain ⟨L, hL⟩ : ∃ L, L = min 1024 (j + 1 - 1024 * (j / 1024)) := ⟨_, rfl⟩
              have hc1 : w'.cell? ⟨g, j / 1024, none⟩ = some (.slice (some ⟨G' (j / 1024), 0, none⟩) L 1024) := by rw [hL]; exact HD.out.blk (j / 1024) (by rw [← HM.out]; exact hp)
              have hc2 : w'.cell? ⟨G' (j / 1024), j % 1024, none⟩ = some (.pointer (some ⟨wr.heap.size, 0, none⟩)) := by rw [HD.out.entry j (Nat.le_refl _), HE.out]
              have hr1 : j % 1024 < L := by omega
              have hi1 : (j : Int) / 1024 < (m : Int) := by omega
              have hi2 : (j : Int) % 1024 < (L : Int) := by omega
              clear hL
              go_wp2
              clear hc1 hc2 hr1 hi1 hi2
              go_loopw [2, 14, 15, 16] (fun r i a b w3 => ∃ x : Nat, x ≤ j ∧ i = .int .i64 x ∧ Hid (w3.Alike w')) (fun _ i _ _ _ => j - (intOf i).toNat)
              case atStart => exact ⟨0, Nat.zero_le _, rfl, rfl, rfl, rfl⟩
              case round =>
                obtain ⟨x, hx, rfl, HL⟩ := hrel
                by_cases hxj : x < j
                · have hp1 : x / 1024 < m := by omega
                  have hp2 : x / 1024 < q := by omega
                  obtain ⟨L1, hL1⟩ : ∃ L, L = min 1024 (j + 1 - 1024 * (x / 1024)) := ⟨_, rfl⟩
                  obtain ⟨L2, hL2⟩ : ∃ L, L = min 1024 (j - 1024 * (x / 1024)) := ⟨_, rfl⟩
                  have hc1 : wr.cell? ⟨g, x / 1024, none⟩ = some (.slice (some ⟨G' (x / 1024), 0, none⟩) L1 1024) := by rw [HL.out.cell, hL1]; exact HD.out.blk (x / 1024) (by rw [← HM.out]; exact hp1)
                  have hc2 : wr.cell? ⟨G' (x / 1024), x % 1024, none⟩ = some (.pointer (some ⟨E' x, 0, none⟩)) := by rw [HL.out.cell]; exact HD.out.entry x hx
                  have hc3 : wr.cell? ⟨w.heap.size + 1, x, none⟩ = some (.pointer (some ⟨E' x, 0, none⟩)) := by rw [HL.out.cell, HD.out.es.cell (i := x) hxj, if_pos hxj]
                  have hc4 : wr.cell? ⟨S, x / 1024, none⟩ = some (.slice (some ⟨G' (x / 1024), 0, none⟩) L2 1024) := by rw [HL.out.cell, HD.out.snap.cell (i := x / 1024) (by rw [← HN.out]; exact hp2), slv, hL2]
                  have hr1 : x % 1024 < L1 := by omega
                  have hr2 : x % 1024 < L2 := by omega
                  have hi1 : (x : Int) / 1024 < (m : Int) := by omega
                  have hi2 : (x : Int) % 1024 < (L1 : Int) := by omega
                  have hi3 : (x : Int) / 1024 < (q : Int) := by omega
                  have hi4 : (x : Int) % 1024 < (L2 : Int) := by omega
                  clear hL1 hL2
                  go_wp2
                  go_quiet (fail)
                  go_wp2
                  go_roundw
                  case rel => exact ⟨x + 1, by omega, by go_num, World.Alike.trans (World.drewN_alike _ _) HL.out⟩
                  case measure => simp [intOf]; omega
                · go_wp2
                  go_ret
                  exact ⟨rfl, HD.out.kept.alike HL.out⟩
end Go.Proofs.Qxb6604750a
