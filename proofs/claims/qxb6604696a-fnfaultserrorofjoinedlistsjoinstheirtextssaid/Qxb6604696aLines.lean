import Derived.Test.Qxb6604696aLinesPlain
namespace Go.Proofs.Qxb6604696a
set_option linter.unusedSimpArgs false
set_option linter.unusedVariables false
open Go.RowKit

theorem Texts.none {w : World} {b o n : Nat} {ss : List ByteArray} (h : Texts w .none b o ss) (hN : ss.length = n) : n = 0 ∧ ss = [] := by
  by_cases e : ss = []
  · subst e; exact ⟨by simpa using hN.symm, rfl⟩
  · have := (h.addr e).1; simp at this

/-- The clone, whatever came in: its texts lie in new memory. -/
def Cloned (w : World) (n : Nat) (ss : List ByteArray) (e : Ending) (w' : World) : Prop :=
  ∃ a', e = .returned (.slice a' n n) ∧ Texts w' a' w.heap.size 0 ss ∧ Below w.heap.size w w'

theorem clone_any (a : Option Addr) (b o n c : Nat) (ss : List ByteArray) (w : World) (HN : Hid (ss.length = n)) (hn : n ≤ 1048576) (ht : Texts w a b o ss) :
    Calls Try.prog 12 #[.slice a n c] w (Cloned w n ss) := by
  cases a with
  | none =>
    obtain ⟨h0, h1⟩ := ht.none HN.out
    subst h0; subst h1
    refine (clone_none 0 c w).mono fun e w' ⟨he, hw⟩ => ?_
    subst hw
    exact ⟨_, he, ⟨fun h => absurd rfl h, fun j x hx => by simp at hx⟩, Below.refl _ _⟩
  | some ad =>
    refine (clone_some ad b o n c ss w HN hn ht).mono fun e w' ⟨he, hb, hz, hc⟩ => ?_
    exact ⟨_, he, ⟨fun _ => ⟨rfl, by omega⟩, hc⟩, hb⟩

/-- At the head of round k: the counter, the place reached in the joined text. -/
structure AtLine (ss : List ByteArray) (n : Nat) (T : ByteArray) (p i : Value) (k q : Nat) : Prop where
  hle : k ≤ n
  hi : i = .int .i64 k
  hp : p = .int .i64 q
  hq : q ≤ T.size
  hat : q = pos ss k
def InLines (ss : List ByteArray) (n : Nat) (T : ByteArray) (p i : Value) : Prop := ∃ k q, AtLine ss n T p i k q

theorem text_nil : text [] = ⟨#[]⟩ := rfl

set_option maxHeartbeats 1000000 in
theorem lines_any (a : Option Addr) (b o n c : Nat) (ss : List ByteArray) (w : World) (HN : Hid (ss.length = n)) (hn : n ≤ maxLen) (ht : Texts w a b o ss) :
    Calls Try.prog 4 #[.slice a n c] w fun e w' => e = .returned (.bool true) ∧ Below w.heap.size w w' := by
  have HT : Hid (Texts w a b o ss) := ht
  clear ht
  have hn' : n ≤ 9223372036854775807 := by unfold maxLen at hn; exact hn
  go_enter Try.func4, Try.ntmps4
  go_wp2_with fail
  refine (bytes10_any a b o n c ss w HN hn HT.out).mono ?_
  rintro e w' ⟨r, rfl, rfl, HR⟩
  replace HR : Hid (r = true → n ≤ 1048576) := HR
  cases r with
  | false =>
    go_wp2
    go_ret
    exact ⟨rfl, Below.refl _ _⟩
  | true =>
  have hn2 : n ≤ 1048576 := HR.out rfl
  clear hn hn' HR
  by_cases h16 : 65536 < n
  · go_wp2_with fail
    go_ret
    exact ⟨rfl, Below.refl _ _⟩
  go_wp2_with fail
  refine (strbytes_any a b o n c ss w' HN hn2 HT.out).mono ?_
  rintro e w' ⟨m, rfl, rfl, hm0, hm1, hm2⟩
  replace hm2 : Hid (m ≤ 1048576 → m = lens ss + 16 * n) := hm2
  by_cases hbig : 1048576 < m
  · go_wp2_with fail
    go_ret
    exact ⟨rfl, Below.refl _ _⟩
  have HL : Hid (lens ss ≤ 1048576) := by have := hm2.out (by omega); rw [Hid]; omega
  clear hm2
  go_wp2_with fail
  refine (clone_any a b o n c ss w' HN hn2 HT.out).mono ?_
  rintro e w1 ⟨a1, rfl, ht1, hb1⟩
  replace ht1 : Hid _ := ht1
  replace hb1 : Hid _ := hb1
  go_wp2_with fail
  refine (faults_any a1 _ 0 n n ss w1 HN hn2 HL.out ht1.out).mono ?_
  rintro e w2 ⟨rfl, hb2⟩
  replace ht1 : Hid _ := ht1.out.below hb2
  replace hb1 : Hid (Below w'.heap.size w' w2) := hb1.out.trans (hb2.mono hb1.out.size)
  clear hb2
  by_cases h0 : n = 0
  · have hss : ss = [] := by have := HN.out; rw [h0] at this; simpa using this
    subst hss; subst h0
    rw [text_nil]
    go_wp2
    go_ret
    exact ⟨rfl, hb1.out⟩
  obtain ⟨T, hT⟩ : ∃ T, T = text ss := ⟨_, rfl⟩
  rw [← hT]
  have HT2 : Hid (T = text ss) := hT
  have hTs : T.size ≤ 4194304 := by rw [hT, text_size]; have := join_le ss; have := HL.out; have := HN.out; omega
  clear hT
  go_wp2
  go_loop [2, 4, 5, 6] (fun r p i mm => InLines ss n T p i) (fun _ _ i _ => n - (intOf i).toNat)
  case atStart => exact ⟨0, 0, ⟨Nat.zero_le _, rfl, rfl, Nat.zero_le _, rfl⟩⟩
  case round =>
    obtain ⟨k, q, hk, rfl, rfl, hq, HQ⟩ := hrel
    replace HQ : Hid _ := HQ
    by_cases hlt : k < n
    · obtain ⟨s, HS, hadr, hc, _⟩ := ht1.out.at (k := k) (by rw [HN.out]; exact hlt)
      subst hadr
      rw [Nat.zero_add] at hc
      by_cases hk0 : k = 0
      · subst hk0
        obtain rfl : q = 0 := HQ.out
        obtain ⟨f1, f2, f3⟩ := first_in ss s HS.out
        rw [← HT2.out] at f2 f3
        have f4 : ((T.extract 0 s.size).toList == s.toList) = true := by rw [f3]; simp
        clear f3
        replace f1 : Hid _ := f1
        go_wp2
        go_round
        case rel =>
          have hN : InLines ss n T (.int .i64 (s.size : Int)) (.int .i64 1) := ⟨1, s.size, ⟨by omega, rfl, rfl, f2, f1.out.symm⟩⟩
          first | exact hN | exact ⟨_, _, hN, rfl, rfl⟩ | exact ⟨_, _, _, hN, rfl, rfl, rfl⟩ | exact ⟨_, _, _, _, hN, rfl, rfl, rfl, rfl⟩
        case measure => simp [intOf]; omega
      · obtain ⟨f1, f2, f3, f4⟩ := later_in ss k s (by omega) HS.out
        rw [← HQ.out, ← HT2.out] at f2 f4
        rw [← HQ.out] at f1
        have hqT : q < T.size := by omega
        have f5 : (((T[q]'hqT).toNat : Int) != 10) = false := by
          have : (T[q]'hqT).toNat = 10 := by have hq' := HQ.out; have hT' := HT2.out; subst hq'; subst hT'; exact f3 _
          rw [this]; rfl
        have f6 : ((T.extract (q + 1) (q + 1 + s.size)).toList == s.toList) = true := by rw [f4]; simp
        clear f3 f4
        replace f1 : Hid _ := f1
        go_wp2
        go_round
        case rel =>
          have hN : InLines ss n T (.int .i64 ((q : Int) + 1 + (s.size : Int))) (.int .i64 ((k : Int) + 1)) := ⟨k + 1, q + 1 + s.size, ⟨by omega, by go_num, by go_num, f2, f1.out.symm⟩⟩
          first | exact hN | exact ⟨_, _, hN, rfl, rfl⟩ | exact ⟨_, _, _, hN, rfl, rfl, rfl⟩ | exact ⟨_, _, _, _, hN, rfl, rfl, rfl, rfl⟩
        case measure => simp [intOf]; omega
    · have hkn : k = n := by omega
      have hqT : ((q : Int) == (T.size : Int)) = true := by
        have : q = T.size := by rw [HQ.out, HT2.out, hkn, ← HN.out, pos_full]
        rw [this]; simp
      go_wp2
      go_ret
      exact ⟨rfl, hb1.out⟩
end Go.Proofs.Qxb6604696a
