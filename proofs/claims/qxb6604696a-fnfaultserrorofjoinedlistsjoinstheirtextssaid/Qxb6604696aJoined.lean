import Derived.Test.Qxb6604696aLines
import Derived.Laws.OwnMore
namespace Go.Proofs.Qxb6604696a
open Go.RowKit
set_option linter.unusedSimpArgs false
set_option linter.unusedVariables false

set_option maxHeartbeats 1000000 in
theorem bytes14_any (a1 : Option Addr) (b1 o1 n1 c1 : Nat) (s1 : List ByteArray) (a2 : Option Addr) (b2 o2 n2 c2 : Nat) (s2 : List ByteArray) (w : World)
    (HN1 : Hid (s1.length = n1)) (hn1 : n1 ≤ maxLen) (ht1 : Texts w a1 b1 o1 s1) (HN2 : Hid (s2.length = n2)) (hn2 : n2 ≤ maxLen) (ht2 : Texts w a2 b2 o2 s2) :
    Calls Try.prog 14 #[.slice a1 n1 c1, .slice a2 n2 c2] w (GaveBool (fun r => r = true → n1 ≤ 1048576 ∧ n2 ≤ 1048576) w) := by
  have HT1 : Hid (Texts w a1 b1 o1 s1) := ht1
  have HT2 : Hid (Texts w a2 b2 o2 s2) := ht2
  clear ht1 ht2
  unfold maxLen at hn1 hn2
  by_cases hbig : 1048576 < n1
  · go_enter Try.func14, Try.ntmps14
    go_wp2
    go_ret
    exact ⟨_, rfl, rfl, fun h => by cases h⟩
  go_enter Try.func14, Try.ntmps14
  go_wp2
  go_loop [4, 5, 6] (fun r t i => ∃ k m : Nat, k ≤ n1 ∧ i = .int .i64 k ∧ t = .int .i64 m ∧ m ≤ 1048576) (fun _ _ i => n1 - (intOf i).toNat)
  case atStart => exact ⟨0, n1, Nat.zero_le _, rfl, rfl, by omega⟩
  case round =>
    obtain ⟨k, m, hk, rfl, rfl, hm⟩ := hrel
    by_cases hlt : k < n1
    · obtain ⟨s, HS, rfl, hc, _⟩ := HT1.out.at (k := k) (by rw [HN1.out]; exact hlt)
      go_wp2
      · go_ret
        exact ⟨_, rfl, rfl, fun h => by cases h⟩
      · go_ret
        exact ⟨_, rfl, rfl, fun h => by cases h⟩
      · go_round
        case rel => exact ⟨k + 1, m + s.size, by omega, by go_num, by go_num, by omega⟩
        case measure => simp [intOf]; omega
    · by_cases hb2 : 1048576 < n2
      · go_wp2
        go_ret
        exact ⟨_, rfl, rfl, fun h => by cases h⟩
      go_wp2
      · go_ret
        exact ⟨_, rfl, rfl, fun h => by cases h⟩
      go_loop [4, 5, 7] (fun r t i => ∃ k m : Nat, k ≤ n2 ∧ i = .int .i64 k ∧ t = .int .i64 m ∧ m ≤ 1048576) (fun _ _ i => n2 - (intOf i).toNat)
      case atStart => exact ⟨0, m + n2, Nat.zero_le _, rfl, by go_num, by omega⟩
      case round =>
        obtain ⟨k2, m2, hk2, rfl, rfl, hm2⟩ := hrel
        by_cases hlt : k2 < n2
        · obtain ⟨s, HS, rfl, hc, _⟩ := HT2.out.at (k := k2) (by rw [HN2.out]; exact hlt)
          go_wp2
          · go_ret
            exact ⟨_, rfl, rfl, fun h => by cases h⟩
          · go_ret
            exact ⟨_, rfl, rfl, fun h => by cases h⟩
          · go_round
            case rel => exact ⟨k2 + 1, m2 + s.size, by omega, by go_num, by go_num, by omega⟩
            case measure => simp [intOf]; omega
        · go_wp2
          go_ret
          exact ⟨_, rfl, rfl, fun _ => ⟨by omega, by omega⟩⟩
end Go.Proofs.Qxb6604696a
