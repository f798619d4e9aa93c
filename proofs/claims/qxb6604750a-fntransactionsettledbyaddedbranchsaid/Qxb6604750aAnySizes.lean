import Derived.Test.Qxb6604750aBranchList
namespace Go.Proofs.Qxb6604750a
open Go.RowKit
set_option linter.unusedSimpArgs false
set_option linter.unusedVariables false

theorem small_step {xs : List Br} {k : Nat} {x : Br} (h : xs[k]? = some x) (hs : ∀ y ∈ xs.take k, Small y) (hx : Small x) : ∀ y ∈ xs.take (k + 1), Small y := by
  obtain ⟨hk, rfl⟩ := List.getElem?_eq_some_iff.1 h
  rw [List.take_succ_eq_append_getElem hk]
  intro y hy
  rcases List.mem_append.1 hy with hy | hy
  · exact hs y hy
  · rw [List.mem_singleton.1 hy]; exact hx

/-- At the head of a round of the bytes' count. -/
structure AtByte (xs : List Br) (n : Nat) (t i : Value) (k m : Nat) : Prop where
  hle : k ≤ n
  hi : i = .int .i64 k
  ht : t = .int .i64 m
  hm : m ≤ 1048576
  small : ∀ y ∈ xs.take k, Small y
def InBytes (xs : List Br) (n : Nat) (t i : Value) : Prop := ∃ k m, AtByte xs n t i k m

set_option maxRecDepth 100000 in
set_option maxHeartbeats 4000000 in
theorem bytes21_any (g s : ByteArray) (a : Option Addr) (n c b o : Nat) (xs : List Br) (w : World) (HN : Hid (xs.length = n)) (hn : n ≤ maxLen) (HX : Hid (Brs w a b o xs)) :
    Calls Try.prog 21 #[.string g, .string s, .slice a n c] w (GaveB (fun r => r = true → g.size ≤ 1048576 ∧ s.size ≤ 1048576 ∧ n ≤ 1048576 ∧ ∀ y ∈ xs, Small y) w) := by
  unfold maxLen at hn
  by_cases h1 : 1048576 < g.size
  · go_enter Try.func21, Try.ntmps21
    go_wp2
    go_ret
    exact ⟨_, rfl, Below.refl _ _, fun h => by cases h⟩
  by_cases h2 : 1048576 < s.size
  · go_enter Try.func21, Try.ntmps21
    go_wp2
    go_ret
    exact ⟨_, rfl, Below.refl _ _, fun h => by cases h⟩
  by_cases h3 : 1048576 < g.size + s.size
  · go_enter Try.func21, Try.ntmps21
    go_wp2
    go_ret
    exact ⟨_, rfl, Below.refl _ _, fun h => by cases h⟩
  by_cases h4 : 1048576 < n
  · go_enter Try.func21, Try.ntmps21
    go_wp2
    go_ret
    exact ⟨_, rfl, Below.refl _ _, fun h => by cases h⟩
  by_cases h5 : 1048576 < g.size + s.size + n
  · go_enter Try.func21, Try.ntmps21
    go_wp2
    go_ret
    exact ⟨_, rfl, Below.refl _ _, fun h => by cases h⟩
  go_enter Try.func21, Try.ntmps21
  go_wp2
  go_loop [6, 7, 8] (fun r t i => InBytes xs n t i) (fun _ _ i => n - (intOf i).toNat)
  case atStart => exact ⟨0, g.size + s.size + n, ⟨Nat.zero_le _, rfl, by go_num, by omega, by simp⟩⟩
  case round =>
    obtain ⟨k, m, hk, rfl, rfl, hm, hsm⟩ := hrel
    have HM : Hid (∀ y ∈ xs.take k, Small y) := hsm
    clear hsm
    by_cases hlt : k < n
    · obtain ⟨x, HS, rfl, hx, _⟩ := HX.out.at (k := k) (by rw [HN.out]; exact hlt)
      obtain ⟨c0, c1, c2, c3, c4, c5, c6, c7, c8, c9, c10⟩ := hx
      clear c5 c7 c8 c9
      go_wp2
      all_goals first | (go_ret; exact ⟨_, rfl, Below.refl _ _, fun h => by cases h⟩) | skip
      go_round
      case rel =>
        have hN : InBytes xs n (.int .i64 ((m : Int) + x.f0.size + x.f1.size + x.f2.size + x.pl + x.f4.size + x.f6.size + x.f10.size)) (.int .i64 ((k : Int) + 1)) :=
          ⟨k + 1, m + x.f0.size + x.f1.size + x.f2.size + x.pl + x.f4.size + x.f6.size + x.f10.size, ⟨by omega, by go_num, by go_num, by omega, small_step HS.out HM.out ⟨by omega, by omega, by omega, by omega, by omega, by omega, by omega⟩⟩⟩
        first | exact hN | exact ⟨_, _, hN, rfl, rfl⟩ | exact ⟨_, _, _, hN, rfl, rfl, rfl⟩ | exact ⟨_, _, _, _, hN, rfl, rfl, rfl, rfl⟩
      case measure => simp [intOf]; omega
    · go_wp2
      go_ret
      exact ⟨_, rfl, Below.refl _ _, fun _ => ⟨by omega, by omega, by omega, by have := HM.out; rw [List.take_of_length_le (by rw [HN.out]; omega)] at this; exact this⟩⟩

set_option maxHeartbeats 1000000 in
theorem sizes22_any (t : Int) (a : Option Addr) (n c b o : Nat) (xs : List Br) (w : World) (h0 : 0 ≤ t) (h1 : t ≤ 2097152) (HN : Hid (xs.length = n)) (hn : n ≤ 1048576) (HX : Hid (Brs w a b o xs)) (HS : Hid (∀ y ∈ xs, Small y)) :
    Calls Try.prog 22 #[.int .i64 t, .slice a n c] w (GaveI w) := by
  go_enter Try.func22, Try.ntmps22
  go_wp2
  go_loopw [0, 4, 5] (fun t r i wr => ∃ k : Nat, ∃ m : Int, k ≤ n ∧ i = .int .i64 k ∧ t = .int .i64 m ∧ 0 ≤ m ∧ m ≤ 2097152 ∧ Hid (Below w.heap.size w wr)) (fun _ _ i _ => n - (intOf i).toNat)
  case atStart => exact ⟨0, t, Nat.zero_le _, rfl, rfl, h0, h1, Below.refl _ _⟩
  case round =>
    obtain ⟨k, m, hk, rfl, rfl, hm0, hm1, HB⟩ := hrel
    by_cases hlt : k < n
    · obtain ⟨x, HI, rfl, hx, hbs⟩ := HX.out.at (k := k) (by rw [HN.out]; exact hlt)
      obtain ⟨c0, c1, c2, c3, c4, c5, c6, c7, c8, c9, c10⟩ := hx.same (w' := wr) fun i => HB.out.cell (p := ⟨b, i, none⟩) hbs
      clear hx
      go_wp2_with fail
      refine (size15_any m x wr hm0 hm1 (HS.out x (List.mem_of_getElem? HI.out))).mono ?_
      rintro e w1 ⟨m2, rfl, hb1, hm2, hm3⟩
      have HB1 : Hid (Below w.heap.size w w1) := HB.out.trans (hb1.mono HB.out.size)
      clear hb1 c0 c1 c2 c3 c4 c5 c6 c7 c8 c9 c10
      by_cases hbig : 1048576 < m2
      · go_wp2
        go_ret
        exact ⟨_, rfl, HB1.out, by omega, by omega⟩
      · go_wp2
        go_roundw
        case rel => exact ⟨k + 1, m2, by omega, by go_num, rfl, by omega, by omega, HB1⟩
        case measure => simp [intOf]; omega
    · go_wp2
      go_ret
      exact ⟨m, rfl, HB.out, hm0, hm1⟩
end Go.Proofs.Qxb6604750a
