import Derived.Test.Qxb6604750aAnySizes
namespace Go.Proofs.Qxb6604750a
open Go.RowKit
set_option linter.unusedSimpArgs false
set_option linter.unusedVariables false

set_option maxRecDepth 100000 in
set_option maxHeartbeats 8000000 in
theorem bytes25_any (g s : ByteArray) (a : Option Addr) (n c b o : Nat) (xs : List Br) (x : Br) (w : World) (HN : Hid (xs.length = n)) (hn : n ≤ maxLen) (HX : Hid (Brs w a b o xs)) :
    Calls Try.prog 25 #[.string g, .string s, .slice a n c, .agg #[.string x.f0, .string x.f1, .string x.f2, .slice x.pa x.pl x.pc, .string x.f4, .int .i64 x.f5, .string x.f6, .bool x.f7, .bool x.f8, .int .i64 x.f9, .string x.f10]] w (GaveB (fun r => r = true → g.size ≤ 1048576 ∧ s.size ≤ 1048576 ∧ n ≤ 1048576 ∧ (∀ y ∈ xs, Small y) ∧ Small x) w) := by
  unfold maxLen at hn
  have HA : Hid (∀ o, Below w.heap.size w (w.alloc o)) := fun o => (Below.refl _ _).alloc (Nat.le_refl _) o
  by_cases h1 : 1048576 < g.size
  · go_enter Try.func25, Try.ntmps25
    go_wp2
    go_ret
    exact ⟨_, rfl, HA.out _, fun h => by cases h⟩
  by_cases h2 : 1048576 < s.size
  · go_enter Try.func25, Try.ntmps25
    go_wp2
    go_ret
    exact ⟨_, rfl, HA.out _, fun h => by cases h⟩
  by_cases h3 : 1048576 < g.size + s.size
  · go_enter Try.func25, Try.ntmps25
    go_wp2
    go_ret
    exact ⟨_, rfl, HA.out _, fun h => by cases h⟩
  by_cases h4 : 1048576 < n
  · go_enter Try.func25, Try.ntmps25
    go_wp2
    go_ret
    exact ⟨_, rfl, HA.out _, fun h => by cases h⟩
  by_cases h5 : 1048576 < g.size + s.size + n
  · go_enter Try.func25, Try.ntmps25
    go_wp2
    go_ret
    exact ⟨_, rfl, HA.out _, fun h => by cases h⟩
  go_enter Try.func25, Try.ntmps25
  go_wp2
  go_loop [8, 9, 10] (fun r t i => InBytes xs n t i) (fun _ _ i => n - (intOf i).toNat)
  case atStart => exact ⟨0, g.size + s.size + n, ⟨Nat.zero_le _, rfl, by go_num, by omega, by simp⟩⟩
  case round =>
    obtain ⟨k, m, hk, rfl, rfl, hm, hsm⟩ := hrel
    have HM : Hid (∀ y ∈ xs.take k, Small y) := hsm
    clear hsm
    by_cases hlt : k < n
    · obtain ⟨y, HS, rfl, hx, hbs⟩ := HX.out.at (k := k) (by rw [HN.out]; exact hlt)
      obtain ⟨c0, c1, c2, c3, c4, c5, c6, c7, c8, c9, c10⟩ := hx
      clear c5 c7 c8 c9
      go_wp2
      all_goals first | (go_ret; exact ⟨_, rfl, HA.out _, fun h => by cases h⟩) | skip
      go_round
      case rel =>
        have hN : InBytes xs n (.int .i64 ((m : Int) + y.f0.size + y.f1.size + y.f2.size + y.pl + y.f4.size + y.f6.size + y.f10.size)) (.int .i64 ((k : Int) + 1)) :=
          ⟨k + 1, m + y.f0.size + y.f1.size + y.f2.size + y.pl + y.f4.size + y.f6.size + y.f10.size, ⟨by omega, by go_num, by go_num, by omega, small_step HS.out HM.out ⟨by omega, by omega, by omega, by omega, by omega, by omega, by omega⟩⟩⟩
        first | exact hN | exact ⟨_, _, hN, rfl, rfl⟩ | exact ⟨_, _, _, hN, rfl, rfl, rfl⟩ | exact ⟨_, _, _, _, hN, rfl, rfl, rfl, rfl⟩
      case measure => simp [intOf]; omega
    · have HM2 : Hid (∀ y ∈ xs, Small y) := by have := HM.out; rw [List.take_of_length_le (by rw [HN.out]; omega)] at this; exact this
      clear HM
      go_wp2
      all_goals
        go_ret
        exact ⟨_, rfl, HA.out _, fun h => by first | exact ⟨by omega, by omega, by omega, HM2.out, by omega, by omega, by omega, by omega, by omega, by omega, by omega⟩ | cases h⟩
end Go.Proofs.Qxb6604750a
