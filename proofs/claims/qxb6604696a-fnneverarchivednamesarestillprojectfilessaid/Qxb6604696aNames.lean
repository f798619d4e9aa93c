import Derived.Test.Qxb6604696aRows
import Derived.Test.Qxb6604696aPlain
import Derived.WalkKit
import Derived.WalkSpells
import Derived.WalkLawsBesides
import Derived.Lib.Strings
import Derived.Lib.IndexBytes
namespace Go.Proofs.Qxb6604696a
open Go.RowKit

theorem ret_bool {a b : Bool} (h : a = b) : Ending.returned (.bool a) = .returned (.bool b) := by rw [h]

theorem cut_at (s : ByteArray) (j : Nat) (hj : j < s.size) (hd : ((s[j].toNat : Int) == 46) = true) :
    s.toList = (s.extract 0 j).toList ++ 46 :: (s.extract (j + 1) s.size).toList := by
  have h1 : s[j] = 46 := by
    have : (s[j].toNat : Int) = 46 := by simpa using hd
    apply UInt8.toNat.inj; simp; omega
  rw [Lib.extract_toList, Lib.toList_data, Lib.toList_data, Lib.extract_to_end]
  have hl : j < s.data.toList.length := by rw [← Lib.size_eq]; exact hj
  have h2 : s.data.toList[j] = 46 := by rw [← h1]; simp [ByteArray.getElem_eq_getElem_data]
  simp only [List.drop_zero, Nat.sub_zero]
  rw [← h2, List.getElem_cons_drop, List.take_append_drop]

theorem dot_step (s : ByteArray) (j : Nat) (hj : j < s.size) (hd : ((s[j].toNat : Int) == 46) = false) (h : 46 ∉ s.data.toList.drop (j + 1)) : 46 ∉ s.data.toList.drop j := by
  have hl : j < s.data.toList.length := by rw [← Lib.size_eq]; exact hj
  rw [List.drop_eq_getElem_cons hl]
  intro hm
  rcases List.mem_cons.1 hm with h1 | h1
  · have h2 : s.data.toList[j] = s[j] := by simp [ByteArray.getElem_eq_getElem_data]
    rw [h2] at h1
    rw [← h1] at hd
    simp at hd
  · exact h h1

theorem no_dot (s : ByteArray) (h : 46 ∉ s.data.toList.drop 0) : four s.toList = false := by
  rw [Lib.toList_data]; exact four_none (by simpa using h)

theorem ends (s : ByteArray) (j : Nat) (hj : j < s.size) (hd : ((s[j].toNat : Int) == 46) = true) (h : 46 ∉ s.data.toList.drop (j + 1)) :
    ((s.extract 0 j).toList.isEmpty = true → four s.toList = ((s.extract (j + 1) s.size).toList == [105, 110, 99, 108, 117, 100, 101] || (s.extract (j + 1) s.size).toList == [105, 103, 110, 111, 114, 101])) ∧
    ((s.extract 0 j).toList.isEmpty = false → ((s.extract 0 j).toList == [98, 117, 105, 108, 100]) = true → four s.toList = ((s.extract (j + 1) s.size).toList == [115, 104] || (s.extract (j + 1) s.size).toList == [99, 109, 100])) ∧
    ((s.extract 0 j).toList.isEmpty = false → ((s.extract 0 j).toList == [98, 117, 105, 108, 100]) = false → four s.toList = false) :=
  four_case _ _ _ (cut_at s j hj hd) (by rw [Lib.toList_data, Lib.extract_to_end]; exact h)

set_option maxHeartbeats 400000 in
theorem rule_any (s : ByteArray) (w : World) (hs : s.size ≤ 1048576) :
    Calls Try.prog 9 #[.string s] w fun e w' => e = .returned (.bool (four s.toList)) ∧ w' = w := by
  go_enter Try.func9, Try.ntmps9
  go_wp2
  go_loop [3, 4] (fun d i => ∃ k : Nat, k ≤ s.size ∧ i = .int .i64 ((k : Int) - 1) ∧ d = .int .i64 (-1) ∧ Hid (46 ∉ s.data.toList.drop k)) (fun _ i => (intOf i + 1).toNat)
  case atStart => exact ⟨s.size, Nat.le_refl _, rfl, rfl, by rw [Lib.size_eq, List.drop_length]; exact (by simp : 46 ∉ ([] : List UInt8))⟩
  case round =>
    obtain ⟨k, hk, rfl, rfl, hno⟩ := hrel
    by_cases h0 : k = 0
    · subst h0
      go_wp2
      go_ret
      exact ⟨ret_bool (no_dot s hno.out).symm, rfl⟩
    · obtain ⟨j, rfl⟩ : ∃ j, k = j + 1 := ⟨k - 1, by omega⟩
      have e1 : (((j + 1 : Nat) : Int) - 1) = (j : Int) := by omega
      rw [e1]
      clear e1
      have hj : j < s.size := by omega
      by_cases hd : ((s[j].toNat : Int) == 46) = true
      · have HE : Hid _ := ends s j hj hd hno.out
        go_wp2
        · go_ret
          exact ⟨ret_bool (by rw [HE.out.1 ‹_›] <;> simp [*]), rfl⟩
        · go_ret
          exact ⟨ret_bool (by rw [HE.out.1 ‹_›]), rfl⟩
        · go_ret
          exact ⟨ret_bool (by rw [HE.out.2.1 ‹_› ‹_›] <;> simp [*]), rfl⟩
        · go_ret
          exact ⟨ret_bool (by rw [HE.out.2.1 ‹_› ‹_›]), rfl⟩
        · go_ret
          exact ⟨ret_bool (by rw [HE.out.2.2 ‹_› ‹_›]), rfl⟩
      · have hd' : ((s[j].toNat : Int) == 46) = false := by simpa using hd
        have HE : Hid _ := dot_step s j hj hd' hno.out
        clear hd
        go_wp2
        go_round
        case rel => exact ⟨j, by omega, rfl, rfl, HE⟩
        case measure => simp [intOf]

set_option maxHeartbeats 400000 in
theorem never_any (s : ByteArray) (w : World) :
    Calls Try.prog 7 #[.string s] w fun e w' => e = .returned (.bool (four s.toList)) ∧ w' = w := by
  go_enter Try.func7, Try.ntmps7
  go_wp2
  all_goals go_ret
  all_goals exact ⟨ret_bool (by simp_all [four]), rfl⟩

theorem eq_lit {s : ByteArray} {l : List UInt8} (h : s.toList = l) : s = ⟨l.toArray⟩ := by
  subst h; rw [Lib.toList_data]

theorem lit_cut (l : List UInt8) (a b : Nat) : ((⟨l.toArray⟩ : ByteArray).extract a b).toList = (l.drop a).take (b - a) := by
  rw [Lib.extract_toList]

set_option maxHeartbeats 400000 in
theorem excl_0 (w : World) : Calls Try.prog 8 #[.string ⟨#[46, 105, 110, 99, 108, 117, 100, 101]⟩] w fun e w' => e = .returned (.bool false) ∧ w' = w := by
  have hx : ∀ a b, ((⟨#[46, 105, 110, 99, 108, 117, 100, 101]⟩ : ByteArray).extract a b).toList = (([46, 105, 110, 99, 108, 117, 100, 101] : List UInt8).drop a).take (b - a) := lit_cut _
  go_enter Try.func8, Try.ntmps8
  go_wp2
  go_ret
  exact ⟨rfl, rfl⟩

set_option maxHeartbeats 400000 in
theorem excl_1 (w : World) : Calls Try.prog 8 #[.string ⟨#[46, 105, 103, 110, 111, 114, 101]⟩] w fun e w' => e = .returned (.bool false) ∧ w' = w := by
  have hx : ∀ a b, ((⟨#[46, 105, 103, 110, 111, 114, 101]⟩ : ByteArray).extract a b).toList = (([46, 105, 103, 110, 111, 114, 101] : List UInt8).drop a).take (b - a) := lit_cut _
  go_enter Try.func8, Try.ntmps8
  go_wp2
  go_ret
  exact ⟨rfl, rfl⟩

set_option maxHeartbeats 400000 in
theorem excl_2 (w : World) : Calls Try.prog 8 #[.string ⟨#[98, 117, 105, 108, 100, 46, 115, 104]⟩] w fun e w' => e = .returned (.bool false) ∧ w' = w := by
  have hx : ∀ a b, ((⟨#[98, 117, 105, 108, 100, 46, 115, 104]⟩ : ByteArray).extract a b).toList = (([98, 117, 105, 108, 100, 46, 115, 104] : List UInt8).drop a).take (b - a) := lit_cut _
  go_enter Try.func8, Try.ntmps8
  go_wp2
  go_ret
  exact ⟨rfl, rfl⟩

set_option maxHeartbeats 400000 in
theorem excl_3 (w : World) : Calls Try.prog 8 #[.string ⟨#[98, 117, 105, 108, 100, 46, 99, 109, 100]⟩] w fun e w' => e = .returned (.bool false) ∧ w' = w := by
  have hx : ∀ a b, ((⟨#[98, 117, 105, 108, 100, 46, 99, 109, 100]⟩ : ByteArray).extract a b).toList = (([98, 117, 105, 108, 100, 46, 99, 109, 100] : List UInt8).drop a).take (b - a) := lit_cut _
  go_enter Try.func8, Try.ntmps8
  go_wp2
  go_ret
  exact ⟨rfl, rfl⟩

theorem excl_four (s : ByteArray) (w : World) (h : four s.toList = true) :
    Calls Try.prog 8 #[.string s] w fun e w' => e = .returned (.bool false) ∧ w' = w := by
  rcases four_iff h with h | h | h | h
  · rw [eq_lit h]; exact excl_0 w
  · rw [eq_lit h]; exact excl_1 w
  · rw [eq_lit h]; exact excl_2 w
  · rw [eq_lit h]; exact excl_3 w
end Go.Proofs.Qxb6604696a
