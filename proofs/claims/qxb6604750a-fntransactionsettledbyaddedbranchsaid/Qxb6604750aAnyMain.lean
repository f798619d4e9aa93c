import Derived.Test.Qxb6604750aAnyClone2
import Derived.Lib.Strings
namespace Go.Proofs.Qxb6604750a
open Go.RowKit
set_option linter.unusedSimpArgs false
set_option linter.unusedVariables false

theorem marked_size (x : Br) : marked x = decide (0 < x.f10.size) := by
  rw [marked, Lib.toList_data, Lib.size_eq]
  cases x.f10.data.toList <;> simp

theorem any_map (ys : List Br) : ys.any marked = (ys.map Br.f10).any mk := by
  rw [List.any_map]; rfl

theorem any_same {xs ys : List Br} (h : ys.map Br.f10 = xs.map Br.f10) : ys.any marked = xs.any marked := by
  rw [any_map, any_map, h]

theorem count_any (ys : List Br) : ys.any marked = decide (0 < ys.countP marked) := by
  rw [Bool.eq_iff_iff]
  simp [List.countP_pos_iff]

theorem count_drop {ys : List Br} {j : Nat} {x : Br} (h : ys[j]? = some x) : (ys.drop j).countP marked = (ys.drop (j + 1)).countP marked + (if 0 < x.f10.size then 1 else 0) := by
  obtain ⟨hj, rfl⟩ := List.getElem?_eq_some_iff.1 h
  rw [List.drop_eq_getElem_cons hj, List.countP_cons]
  simp [marked_size]

theorem count_le (ys : List Br) (j : Nat) : (ys.drop j).countP marked ≤ ys.length := Nat.le_trans List.countP_le_length (by simp)

/-- The count under way. -/
structure AtCount (ys : List Br) (n : Nat) (c i : Value) (k m : Nat) : Prop where
  hle : k ≤ n
  hi : i = .int .i64 ((k : Int) - 1)
  hc : c = .int .i64 m
  hm : m ≤ n
  cnt : m = (ys.drop k).countP marked
def InCount (ys : List Br) (n : Nat) (c i : Value) : Prop := ∃ k m, AtCount ys n c i k m

set_option maxRecDepth 100000 in
set_option maxHeartbeats 2000000 in
theorem reason_any (g s : ByteArray) (a : Option Addr) (n c b o : Nat) (xs : List Br) (w : World) (HN : Hid (xs.length = n)) (hn : n ≤ maxLen) (hnil : a = none → n = 0) (HX : Hid (Brs w a b o xs)) (HP : Hid (Pays w xs)) :
    Calls Try.prog 6 #[.string g, .string s, .slice a n c] w fun e w' => e = .returned (.bool true) ∧ Below w.heap.size w w' := by
  replace hnil : Hid (a = none → n = 0) := hnil
  go_enter Try.func6, Try.ntmps6
  go_wp2_with fail
  refine (bytes21_any g s a n c b o xs w HN hn HX).mono ?_
  rintro e w1 ⟨r, rfl, hb1, hr⟩
  have HB : Hid (Below w.heap.size w w1) := hb1
  replace hr : Hid _ := hr
  clear hb1
  cases r with
  | false =>
    go_wp2
    go_ret
    exact ⟨rfl, HB.out⟩
  | true =>
  obtain ⟨hg, hs, hn2, hsm⟩ := hr.out rfl
  have HS : Hid (∀ y ∈ xs, Small y) := hsm
  clear hr hsm hn
  by_cases h4 : 4096 < n
  · go_wp2_with fail
    go_ret
    exact ⟨rfl, HB.out⟩
  replace HX : Hid (Brs w1 a b o xs) := HX.out.below HB.out
  replace HP : Hid (Pays w1 xs) := fun x hx => by obtain ⟨pb, po, h⟩ := HP.out x hx; exact ⟨pb, po, h.below HB.out⟩
  go_wp2_with fail
  refine (add14_any 0 g.size w1 (by omega) (by omega) (by omega) (by omega)).mono ?_
  rintro e w' ⟨m1, rfl, hw', x1, x2⟩
  subst hw'
  go_wp2_with fail
  refine (add14_any m1 s.size w' x1 x2 (by omega) (by omega)).mono ?_
  rintro e w' ⟨m2, rfl, hw', x3, x4⟩
  subst hw'
  go_wp2_with fail
  refine (sizes22_any m2 a n c b o xs w' x3 x4 HN hn2 HX HS).mono ?_
  rintro e w2 ⟨m3, rfl, hb2, x5, x6⟩
  replace HX : Hid (Brs w2 a b o xs) := HX.out.below hb2
  replace HP : Hid (Pays w2 xs) := fun x hx => by obtain ⟨pb, po, h⟩ := HP.out x hx; exact ⟨pb, po, h.below hb2⟩
  replace HB : Hid (Below w.heap.size w w2) := HB.out.trans (hb2.mono HB.out.size)
  clear hb2 x1 x2 x3 x4
  by_cases hbig : 1048576 < m3
  · go_wp2_with fail
    go_ret
    exact ⟨rfl, HB.out⟩
  go_wp2_with fail
  refine (clone23_any a n c b o xs w2 HN hn2 hnil.out HX HS HP).mono ?_
  rintro e w3 ⟨a', ys, rfl, hb3, hyl, hym, hyb⟩
  have HY : Hid (Brs w3 a' w2.heap.size 0 ys) := hyb
  have HN' : Hid (ys.length = n) := hyl
  replace HB : Hid (Below w.heap.size w w3) := HB.out.trans (hb3.mono HB.out.size)
  clear hb3 hyl hym hyb HX HP HS x5 x6 HN hnil
  go_wp2_with fail
  refine (to24_any a' n n w2.heap.size 0 ys w3 HN' hn2 HY).mono ?_
  rintro e w4 ⟨rfl, hb4, hcp⟩
  replace HY : Hid (Brs w4 a' w2.heap.size 0 ys) := HY.out.below hb4
  have HC : Hid (Brs w4 (some ⟨w3.heap.size, 0, none⟩) w3.heap.size 0 ys) := hcp.brs
  replace HB : Hid (Below w.heap.size w w4) := HB.out.trans (hb4.mono HB.out.size)
  clear hb4 hcp
  go_wp2_with fail
  refine (tx18_any _ _ _ _ _ _).mono ?_
  rintro e w5 ⟨rfl, hb5⟩
  replace HY : Hid (Brs w5 a' w2.heap.size 0 ys) := HY.out.below hb5
  replace HC : Hid (Brs w5 (some ⟨w3.heap.size, 0, none⟩) w3.heap.size 0 ys) := HC.out.below hb5
  replace HB : Hid (Below w.heap.size w w5) := HB.out.trans (hb5.mono HB.out.size)
  clear hb5
  go_wp2_with fail
  refine (settled19_any g s _ n n w3.heap.size 0 ys w5 HN' hn2 HC).mono ?_
  rintro e w6 ⟨rfl, hb6⟩
  replace HY : Hid (Brs w6 a' w2.heap.size 0 ys) := HY.out.below hb6
  replace HB : Hid (Below w.heap.size w w6) := HB.out.trans (hb6.mono HB.out.size)
  clear hb6 HC
  obtain ⟨got, hgot⟩ : ∃ got, got = ys.any marked := ⟨_, rfl⟩
  rw [← hgot]
  have HG : Hid (got = ys.any marked) := hgot
  clear hgot
  go_wp2
  go_loop [8, 9] (fun cv i => InCount ys n cv i) (fun _ i => (intOf i + 1).toNat)
  case atStart => exact ⟨n, 0, ⟨Nat.le_refl _, rfl, rfl, Nat.zero_le _, by rw [List.drop_of_length_le (by rw [HN'.out]; omega)]; rfl⟩⟩
  case round =>
    obtain ⟨k, m, hk, rfl, rfl, hm, hcnt⟩ := hrel
    have HCN : Hid _ := hcnt
    clear hcnt
    by_cases h0 : k = 0
    · subst h0
      have hfin : (got == decide (0 < m)) = true := by
        have h1 := HG.out; have h2 := HCN.out
        rw [List.drop_zero] at h2
        rw [h1, count_any, ← h2]
        simp
      go_wp2
      go_ret
      exact ⟨rfl, HB.out⟩
    · obtain ⟨j, rfl⟩ : ∃ j, k = j + 1 := ⟨k - 1, by omega⟩
      have e1 : (((j + 1 : Nat) : Int) - 1) = (j : Int) := by omega
      rw [e1]
      clear e1
      obtain ⟨x, HI, rfl, hx, _⟩ := HY.out.at (k := j) (by rw [HN'.out]; omega)
      have c10 := hx.h10
      rw [Nat.zero_add] at c10
      have hcd := count_drop HI.out
      have HCD : Hid _ := hcd
      clear hx hcd
      by_cases hp : 0 < x.f10.size
      · go_wp2
        go_round
        case rel =>
          have hN : InCount ys n (.int .i64 ((m : Int) + 1)) (.int .i64 ((j : Int) - 1)) := ⟨j, m + 1, ⟨by omega, rfl, by go_num, by have := HCD.out; have := HCN.out; have h3 := count_le ys j; rw [HN'.out] at h3; rw [if_pos hp] at HCD; have := HCD.out; omega, by rw [HCD.out, if_pos hp, ← HCN.out]⟩⟩
          first | exact hN | exact ⟨_, _, hN, rfl, rfl⟩ | exact ⟨_, _, _, hN, rfl, rfl, rfl⟩
        case measure => simp [intOf]
      · go_wp2
        go_round
        case rel =>
          have hN : InCount ys n (.int .i64 (m : Int)) (.int .i64 ((j : Int) - 1)) := ⟨j, m, ⟨by omega, rfl, rfl, hm, by rw [HCD.out, if_neg hp, ← HCN.out]; rfl⟩⟩
          first | exact hN | exact ⟨_, _, hN, rfl, rfl⟩ | exact ⟨_, _, _, hN, rfl, rfl, rfl⟩
        case measure => simp [intOf]
end Go.Proofs.Qxb6604750a
