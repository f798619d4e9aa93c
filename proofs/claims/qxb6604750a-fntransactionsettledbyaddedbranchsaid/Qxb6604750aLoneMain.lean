import Derived.Test.Qxb6604750aLone
import Derived.Lib.Strings
namespace Go.Proofs.Qxb6604750a
open Go.RowKit
set_option linter.unusedSimpArgs false
set_option linter.unusedVariables false

/-- 'settled by hand' -/
def hand : ByteArray := ⟨#[115, 101, 116, 116, 108, 101, 100, 32, 98, 121, 32, 104, 97, 110, 100]⟩
theorem mk_hand : mk hand = true := by rw [mk, Lib.toList_data]; rfl
theorem mk_none : mk ⟨#[]⟩ = false := by rw [mk, Lib.toList_data]; rfl
theorem mk_some (s : ByteArray) (h : s.size ≠ 0) : mk s = true := by
  rw [mk, Lib.toList_data]
  rw [Lib.size_eq] at h
  cases hs : s.data.toList with
  | nil => rw [hs] at h; exact absurd rfl h
  | cons a t => rfl

set_option maxRecDepth 100000 in
set_option maxHeartbeats 1500000 in
theorem lone_any (x : Br) (pb po : Nat) (w : World) (HP : Hid (Pay w x.pa x.pl pb po)) :
    Calls Try.prog 5 #[.agg #[.string x.f0, .string x.f1, .string x.f2, .slice x.pa x.pl x.pc, .string x.f4, .int .i64 x.f5, .string x.f6, .bool x.f7, .bool x.f8, .int .i64 x.f9, .string x.f10]] w fun e w' => e = .returned (.bool true) ∧ Below w.heap.size w w' := by
  have HF0 : Hid (∀ o, Below w.heap.size w (w.alloc o)) := fun o => (Below.refl _ _).alloc (Nat.le_refl _) o
  have hme := mk_none
  go_enter Try.func5, Try.ntmps5
  go_wp2_with fail
  refine (bytes13_any x _).mono ?_
  rintro e w1 ⟨r, rfl, hb1, hr⟩
  have HF : Hid (Below w.heap.size w w1) := (HF0.out _).trans (hb1.mono (by simp))
  have HX : Hid (Box w1 w.heap.size x x.pa x.pl x.pc x.f10) := (Box.new w x x.pa x.pl x.pc x.f10 35).below hb1
  have hfz : w1.frozen? ⟨w.heap.size, 3, none⟩ = false := by rw [hb1.frozen (p := ⟨w.heap.size, 3, none⟩) (by simp)]; simp
  replace hr : Hid _ := hr
  clear hb1 HF0
  cases r with
  | false =>
    go_wp2
    go_ret
    exact ⟨rfl, HF.out⟩
  | true =>
  have HS : Hid (Small x) := hr.out rfl
  clear hr
  obtain ⟨c0, c1, c2, c3, c4, c5, c6, c7, c8, c9, c10, c11⟩ := HX.out
  go_wp2_with fail
  refine (size15_any 0 x w1 (by omega) (by omega) HS.out).mono ?_
  rintro e w2 ⟨m, rfl, hb2, hm0, hm1⟩
  replace hfz : w2.frozen? ⟨w.heap.size, 3, none⟩ = false := by rw [hb2.frozen (p := ⟨w.heap.size, 3, none⟩) c11]; exact hfz
  clear c0 c1 c2 c3 c4 c5 c6 c7 c8 c9 c10 c11
  replace HX : Hid (Box w2 w.heap.size x x.pa x.pl x.pc x.f10) := HX.out.below hb2
  replace HF : Hid (Below w.heap.size w w2) := HF.out.trans (hb2.mono HF.out.size)
  clear hb2
  go_wp2_with fail
  refine (add14_any m 15 w2 hm0 hm1 (by omega) (by omega)).mono ?_
  rintro e w' ⟨m2, rfl, hw', hm2, hm3⟩
  subst hw'
  by_cases hbig : 1048576 < m2
  · go_wp2_with fail
    go_ret
    exact ⟨rfl, HF.out⟩
  have c3 := HX.out.h3
  have c11 := HX.out.lt
  have HP2 : Hid (Pay w' x.pa x.pl pb po) := HP.out.below HF.out
  go_wp2_with fail
  refine (clone16_any x.pa x.pl x.pc pb po w' HP2 HS.out.z3).mono ?_
  rintro e w3 ⟨a', rfl, hb3⟩
  replace HX : Hid (Box w3 w.heap.size x x.pa x.pl x.pc x.f10) := HX.out.below hb3
  replace HF : Hid (Below w.heap.size w w3) := HF.out.trans (hb3.mono HF.out.size)
  replace hfz : w3.frozen? ⟨w.heap.size, 3, none⟩ = false := by rw [hb3.frozen (p := ⟨w.heap.size, 3, none⟩) c11]; exact hfz
  clear hb3 HP2 c3 c11
  have HY : Hid (Box (w3.setCell ⟨w.heap.size, 3, none⟩ (.slice a' x.pl x.pl)) w.heap.size x a' x.pl x.pl x.f10) := HX.out.setPay a' x.pl x.pl
  replace HF : Hid (Below w.heap.size w (w3.setCell ⟨w.heap.size, 3, none⟩ (.slice a' x.pl x.pl))) := HF.out.setCell (Nat.le_refl _) _
  obtain ⟨c0, c1, c2, c3, c4, c5, c6, c7, c8, c9, c10, c11⟩ := HX.out
  clear HX HS HP
  go_wp2_with fail
  refine (to17 x a' x.pl x.pl x.f10 _).mono ?_
  rintro e w4 ⟨rfl, hb4⟩
  replace HY : Hid (Box w4 w.heap.size x a' x.pl x.pl x.f10) := HY.out.below hb4
  replace HF : Hid (Below w.heap.size w w4) := HF.out.trans (hb4.mono HF.out.size)
  clear hb4 c0 c1 c2 c3 c4 c5 c6 c7 c8 c9 c10 c11 hfz hm0 hm1 hm2 hm3 hbig
  obtain ⟨p0, p1, p2, p3, p4, p5, p6, p7, p8, p9, p10, p11⟩ := HY.out
  go_wp2_with fail
  refine (to17 x a' x.pl x.pl x.f10 _).mono ?_
  rintro e w5 ⟨rfl, hb5⟩
  obtain ⟨N3, hN3⟩ : ∃ N, N = w4.heap.size := ⟨_, rfl⟩
  have H3 : Hid (Box w5 N3 x a' x.pl x.pl x.f10) := by rw [hN3]; exact (Box.new w4 x a' x.pl x.pl x.f10 43).below hb5
  replace HY : Hid (Box w5 w.heap.size x a' x.pl x.pl x.f10) := (HY.out.past _).below hb5
  replace HF : Hid (Below w.heap.size w w5) := (HF.out.alloc HF.out.size _).trans (hb5.mono (by have := HF.out.size; simp; omega))
  rw [← hN3]
  clear hb5 p0 p1 p2 p3 p4 p5 p6 p7 p8 p9 p10 p11 hN3
  obtain ⟨p0, p1, p2, p3, p4, p5, p6, p7, p8, p9, p10, p11⟩ := HY.out
  by_cases hr : x.f10.size = 0
  · have hr1 : ((x.f10.size : Int) == 0) = true := by simp [hr]
    have hmr := mk_hand
    clear hr
    go_wp2_with fail

    refine (to17 x a' x.pl x.pl x.f10 _).mono ?_
    rintro e w6 ⟨rfl, hb6⟩
    obtain ⟨N4, hN4⟩ : ∃ N, N = w5.heap.size := ⟨_, rfl⟩
    have H4 : Hid (Box w6 N4 x a' x.pl x.pl hand) := by rw [hN4]; exact (Box.new w5 x a' x.pl x.pl hand 43).below hb6
    replace H3 : Hid (Box w6 N3 x a' x.pl x.pl x.f10) := (H3.out.past _).below hb6
    replace HY : Hid (Box w6 w.heap.size x a' x.pl x.pl x.f10) := (HY.out.past _).below hb6
    replace HF : Hid (Below w.heap.size w w6) := (HF.out.alloc HF.out.size _).trans (hb6.mono (by have := HF.out.size; simp; omega))
    rw [← hN4]
    clear hb6 p0 p1 p2 p3 p4 p5 p6 p7 p8 p9 p10 p11 hN4 hr1
    obtain ⟨p0, p1, p2, p3, p4, p5, p6, p7, p8, p9, p10, p11⟩ := HY.out
    obtain ⟨q0, q1, q2, q3, q4, q5, q6, q7, q8, q9, q10, q11⟩ := H3.out
    go_wp2_with fail

    refine (tx18_any _ _ _ _ _ _).mono ?_
    rintro e w7 ⟨rfl, hb7⟩
    obtain ⟨N5, hN5⟩ : ∃ N, N = w6.heap.size := ⟨_, rfl⟩
    have HX : Hid (Boxes w w.heap.size N3 N4 N5 x a' x.pl x.pl x.f10 hand w7) := by
      rw [hN5]
      exact ⟨((HF.out.alloc HF.out.size _).alloc (by have := HF.out.size; simp; omega) _).trans (hb7.mono (by have := HF.out.size; simp; omega)), ((HY.out.past _).past _).below hb7, ((H3.out.past _).past _).below hb7, ((H4.out.past _).past _).below hb7, ((Box.new w6 x a' x.pl x.pl ⟨#[]⟩ 43).past _).below hb7⟩
    have hN : Box w7 (w6.heap.size + 1) x a' x.pl x.pl x.f10 := by
      have := (Box.new (w6.alloc (.cells #[.string x.f0, .string x.f1, .string x.f2, .slice a' x.pl x.pl, .string x.f4, .int .i64 x.f5, .string x.f6, .bool x.f7, .bool x.f8, .int .i64 x.f9, .string ⟨#[]⟩] 43)) x a' x.pl x.pl x.f10 43).below hb7
      simpa using this
    have HN : Hid (Box w7 (N5 + 1) x a' x.pl x.pl x.f10) := by rw [hN5]; exact hN
    clear hN
    rw [← hN5]
    clear hb7 HY HF H3 H4 hN5 p0 p1 p2 p3 p4 p5 p6 p7 p8 p9 p10 p11 q0 q1 q2 q3 q4 q5 q6 q7 q8 q9 q10 q11
    obtain ⟨⟨p0, p1, p2, p3, p4, p5, p6, p7, p8, p9, p10, p11⟩, ⟨q0, q1, q2, q3, q4, q5, q6, q7, q8, q9, q10, q11⟩, ⟨r0, r1, r2, r3, r4, r5, r6, r7, r8, r9, r10, r11⟩, ⟨s0, s1, s2, s3, s4, s5, s6, s7, s8, s9, s10, s11⟩⟩ := (⟨HX.out.b1, HX.out.b3, HX.out.b4, HX.out.b5⟩ : _ ∧ _ ∧ _ ∧ _)
    go_wp2_with fail
    refine (set19_one _ _ _ x a' x.pl x.pl x.f10 _ HN.out).mono ?_
    rintro e w8 ⟨rfl, hb⟩
    clear p0 p1 p2 p3 p4 p5 p6 p7 p8 p9 p10 p11 q0 q1 q2 q3 q4 q5 q6 q7 q8 q9 q10 q11 r0 r1 r2 r3 r4 r5 r6 r7 r8 r9 r10 r11 s0 s1 s2 s3 s4 s5 s6 s7 s8 s9 s10 s11
    replace HX : Hid (Boxes w w.heap.size N3 N4 N5 x a' x.pl x.pl x.f10 hand w8) := HX.out.next (Below.refl _ _) hb
    clear hb HN
    obtain ⟨⟨p0, p1, p2, p3, p4, p5, p6, p7, p8, p9, p10, p11⟩, ⟨q0, q1, q2, q3, q4, q5, q6, q7, q8, q9, q10, q11⟩, ⟨r0, r1, r2, r3, r4, r5, r6, r7, r8, r9, r10, r11⟩, ⟨s0, s1, s2, s3, s4, s5, s6, s7, s8, s9, s10, s11⟩⟩ := (⟨HX.out.b1, HX.out.b3, HX.out.b4, HX.out.b5⟩ : _ ∧ _ ∧ _ ∧ _)
    go_wp2_with fail
    refine (set20 x a' x.pl x.pl x.f10 _).mono ?_
    rintro e w9 ⟨rfl, hb⟩
    clear p0 p1 p2 p3 p4 p5 p6 p7 p8 p9 p10 p11 q0 q1 q2 q3 q4 q5 q6 q7 q8 q9 q10 q11 r0 r1 r2 r3 r4 r5 r6 r7 r8 r9 r10 r11 s0 s1 s2 s3 s4 s5 s6 s7 s8 s9 s10 s11
    replace HX : Hid (Boxes w w.heap.size N3 N4 N5 x a' x.pl x.pl x.f10 hand w9) := HX.out.next (Below.refl _ _) hb
    clear hb
    obtain ⟨⟨p0, p1, p2, p3, p4, p5, p6, p7, p8, p9, p10, p11⟩, ⟨q0, q1, q2, q3, q4, q5, q6, q7, q8, q9, q10, q11⟩, ⟨r0, r1, r2, r3, r4, r5, r6, r7, r8, r9, r10, r11⟩, ⟨s0, s1, s2, s3, s4, s5, s6, s7, s8, s9, s10, s11⟩⟩ := (⟨HX.out.b1, HX.out.b3, HX.out.b4, HX.out.b5⟩ : _ ∧ _ ∧ _ ∧ _)
    go_wp2_with fail
    refine (set20 x a' x.pl x.pl hand _).mono ?_
    rintro e w10 ⟨rfl, hb⟩
    clear p0 p1 p2 p3 p4 p5 p6 p7 p8 p9 p10 p11 q0 q1 q2 q3 q4 q5 q6 q7 q8 q9 q10 q11 r0 r1 r2 r3 r4 r5 r6 r7 r8 r9 r10 r11 s0 s1 s2 s3 s4 s5 s6 s7 s8 s9 s10 s11
    replace HX : Hid (Boxes w w.heap.size N3 N4 N5 x a' x.pl x.pl x.f10 hand w10) := HX.out.next (Below.refl _ _) hb
    clear hb
    obtain ⟨⟨p0, p1, p2, p3, p4, p5, p6, p7, p8, p9, p10, p11⟩, ⟨q0, q1, q2, q3, q4, q5, q6, q7, q8, q9, q10, q11⟩, ⟨r0, r1, r2, r3, r4, r5, r6, r7, r8, r9, r10, r11⟩, ⟨s0, s1, s2, s3, s4, s5, s6, s7, s8, s9, s10, s11⟩⟩ := (⟨HX.out.b1, HX.out.b3, HX.out.b4, HX.out.b5⟩ : _ ∧ _ ∧ _ ∧ _)
    go_wp2_with fail
    have HN : Hid _ := Box.new w10 x a' x.pl x.pl hand 43
    refine (tx18_any _ _ _ _ _ _).mono ?_
    rintro e w11 ⟨rfl, hb⟩
    replace HN : Hid (Box w11 w10.heap.size x a' x.pl x.pl hand) := HN.out.below hb
    clear p0 p1 p2 p3 p4 p5 p6 p7 p8 p9 p10 p11 q0 q1 q2 q3 q4 q5 q6 q7 q8 q9 q10 q11 r0 r1 r2 r3 r4 r5 r6 r7 r8 r9 r10 r11 s0 s1 s2 s3 s4 s5 s6 s7 s8 s9 s10 s11
    replace HX : Hid (Boxes w w.heap.size N3 N4 N5 x a' x.pl x.pl x.f10 hand w11) := HX.out.next ((Below.refl _ _).alloc (Nat.le_refl _) _) hb
    clear hb
    obtain ⟨⟨p0, p1, p2, p3, p4, p5, p6, p7, p8, p9, p10, p11⟩, ⟨q0, q1, q2, q3, q4, q5, q6, q7, q8, q9, q10, q11⟩, ⟨r0, r1, r2, r3, r4, r5, r6, r7, r8, r9, r10, r11⟩, ⟨s0, s1, s2, s3, s4, s5, s6, s7, s8, s9, s10, s11⟩⟩ := (⟨HX.out.b1, HX.out.b3, HX.out.b4, HX.out.b5⟩ : _ ∧ _ ∧ _ ∧ _)
    go_wp2_with fail
    refine (set19_one _ _ _ x a' x.pl x.pl hand _ HN.out).mono ?_
    rintro e w12 ⟨rfl, hb⟩
    clear p0 p1 p2 p3 p4 p5 p6 p7 p8 p9 p10 p11 q0 q1 q2 q3 q4 q5 q6 q7 q8 q9 q10 q11 r0 r1 r2 r3 r4 r5 r6 r7 r8 r9 r10 r11 s0 s1 s2 s3 s4 s5 s6 s7 s8 s9 s10 s11
    replace HX : Hid (Boxes w w.heap.size N3 N4 N5 x a' x.pl x.pl x.f10 hand w12) := HX.out.next (Below.refl _ _) hb
    clear hb HN
    obtain ⟨⟨p0, p1, p2, p3, p4, p5, p6, p7, p8, p9, p10, p11⟩, ⟨q0, q1, q2, q3, q4, q5, q6, q7, q8, q9, q10, q11⟩, ⟨r0, r1, r2, r3, r4, r5, r6, r7, r8, r9, r10, r11⟩, ⟨s0, s1, s2, s3, s4, s5, s6, s7, s8, s9, s10, s11⟩⟩ := (⟨HX.out.b1, HX.out.b3, HX.out.b4, HX.out.b5⟩ : _ ∧ _ ∧ _ ∧ _)
    go_wp2_with fail
    refine (set20 x a' x.pl x.pl ⟨#[]⟩ _).mono ?_
    rintro e w13 ⟨rfl, hb⟩
    clear p0 p1 p2 p3 p4 p5 p6 p7 p8 p9 p10 p11 q0 q1 q2 q3 q4 q5 q6 q7 q8 q9 q10 q11 r0 r1 r2 r3 r4 r5 r6 r7 r8 r9 r10 r11 s0 s1 s2 s3 s4 s5 s6 s7 s8 s9 s10 s11
    replace HX : Hid (Boxes w w.heap.size N3 N4 N5 x a' x.pl x.pl x.f10 hand w13) := HX.out.next (Below.refl _ _) hb
    clear hb
    obtain ⟨⟨p0, p1, p2, p3, p4, p5, p6, p7, p8, p9, p10, p11⟩, ⟨q0, q1, q2, q3, q4, q5, q6, q7, q8, q9, q10, q11⟩, ⟨r0, r1, r2, r3, r4, r5, r6, r7, r8, r9, r10, r11⟩, ⟨s0, s1, s2, s3, s4, s5, s6, s7, s8, s9, s10, s11⟩⟩ := (⟨HX.out.b1, HX.out.b3, HX.out.b4, HX.out.b5⟩ : _ ∧ _ ∧ _ ∧ _)
    go_wp2_with fail
    have HN : Hid _ := Box.new w13 x a' x.pl x.pl ⟨#[]⟩ 43
    refine (tx18_any _ _ _ _ _ _).mono ?_
    rintro e w14 ⟨rfl, hb⟩
    replace HN : Hid (Box w14 w13.heap.size x a' x.pl x.pl ⟨#[]⟩) := HN.out.below hb
    clear p0 p1 p2 p3 p4 p5 p6 p7 p8 p9 p10 p11 q0 q1 q2 q3 q4 q5 q6 q7 q8 q9 q10 q11 r0 r1 r2 r3 r4 r5 r6 r7 r8 r9 r10 r11 s0 s1 s2 s3 s4 s5 s6 s7 s8 s9 s10 s11
    replace HX : Hid (Boxes w w.heap.size N3 N4 N5 x a' x.pl x.pl x.f10 hand w14) := HX.out.next ((Below.refl _ _).alloc (Nat.le_refl _) _) hb
    clear hb
    obtain ⟨⟨p0, p1, p2, p3, p4, p5, p6, p7, p8, p9, p10, p11⟩, ⟨q0, q1, q2, q3, q4, q5, q6, q7, q8, q9, q10, q11⟩, ⟨r0, r1, r2, r3, r4, r5, r6, r7, r8, r9, r10, r11⟩, ⟨s0, s1, s2, s3, s4, s5, s6, s7, s8, s9, s10, s11⟩⟩ := (⟨HX.out.b1, HX.out.b3, HX.out.b4, HX.out.b5⟩ : _ ∧ _ ∧ _ ∧ _)
    go_wp2_with fail
    refine (set19_one _ _ _ x a' x.pl x.pl ⟨#[]⟩ _ HN.out).mono ?_
    rintro e w15 ⟨rfl, hb⟩
    clear p0 p1 p2 p3 p4 p5 p6 p7 p8 p9 p10 p11 q0 q1 q2 q3 q4 q5 q6 q7 q8 q9 q10 q11 r0 r1 r2 r3 r4 r5 r6 r7 r8 r9 r10 r11 s0 s1 s2 s3 s4 s5 s6 s7 s8 s9 s10 s11
    replace HX : Hid (Boxes w w.heap.size N3 N4 N5 x a' x.pl x.pl x.f10 hand w15) := HX.out.next (Below.refl _ _) hb
    clear hb HN
    obtain ⟨⟨p0, p1, p2, p3, p4, p5, p6, p7, p8, p9, p10, p11⟩, ⟨q0, q1, q2, q3, q4, q5, q6, q7, q8, q9, q10, q11⟩, ⟨r0, r1, r2, r3, r4, r5, r6, r7, r8, r9, r10, r11⟩, ⟨s0, s1, s2, s3, s4, s5, s6, s7, s8, s9, s10, s11⟩⟩ := (⟨HX.out.b1, HX.out.b3, HX.out.b4, HX.out.b5⟩ : _ ∧ _ ∧ _ ∧ _)
    go_wp2_with fail
    refine (tx18_any _ _ _ _ _ _).mono ?_
    rintro e w16 ⟨rfl, hb⟩
    clear p0 p1 p2 p3 p4 p5 p6 p7 p8 p9 p10 p11 q0 q1 q2 q3 q4 q5 q6 q7 q8 q9 q10 q11 r0 r1 r2 r3 r4 r5 r6 r7 r8 r9 r10 r11 s0 s1 s2 s3 s4 s5 s6 s7 s8 s9 s10 s11
    replace HX : Hid (Boxes w w.heap.size N3 N4 N5 x a' x.pl x.pl x.f10 hand w16) := HX.out.next (Below.refl _ _) hb
    clear hb
    obtain ⟨⟨p0, p1, p2, p3, p4, p5, p6, p7, p8, p9, p10, p11⟩, ⟨q0, q1, q2, q3, q4, q5, q6, q7, q8, q9, q10, q11⟩, ⟨r0, r1, r2, r3, r4, r5, r6, r7, r8, r9, r10, r11⟩, ⟨s0, s1, s2, s3, s4, s5, s6, s7, s8, s9, s10, s11⟩⟩ := (⟨HX.out.b1, HX.out.b3, HX.out.b4, HX.out.b5⟩ : _ ∧ _ ∧ _ ∧ _)
    go_wp2_with fail
    refine (set19_none _ _ _ _ _).mono ?_
    rintro e w17 ⟨rfl, hb⟩
    clear p0 p1 p2 p3 p4 p5 p6 p7 p8 p9 p10 p11 q0 q1 q2 q3 q4 q5 q6 q7 q8 q9 q10 q11 r0 r1 r2 r3 r4 r5 r6 r7 r8 r9 r10 r11 s0 s1 s2 s3 s4 s5 s6 s7 s8 s9 s10 s11
    replace HX : Hid (Boxes w w.heap.size N3 N4 N5 x a' x.pl x.pl x.f10 hand w17) := HX.out.next (Below.refl _ _) hb
    clear hb
    obtain ⟨⟨p0, p1, p2, p3, p4, p5, p6, p7, p8, p9, p10, p11⟩, ⟨q0, q1, q2, q3, q4, q5, q6, q7, q8, q9, q10, q11⟩, ⟨r0, r1, r2, r3, r4, r5, r6, r7, r8, r9, r10, r11⟩, ⟨s0, s1, s2, s3, s4, s5, s6, s7, s8, s9, s10, s11⟩⟩ := (⟨HX.out.b1, HX.out.b3, HX.out.b4, HX.out.b5⟩ : _ ∧ _ ∧ _ ∧ _)
    go_wp2_with fail
    refine (tx18_any _ _ _ _ _ _).mono ?_
    rintro e w18 ⟨rfl, hb⟩
    clear p0 p1 p2 p3 p4 p5 p6 p7 p8 p9 p10 p11 q0 q1 q2 q3 q4 q5 q6 q7 q8 q9 q10 q11 r0 r1 r2 r3 r4 r5 r6 r7 r8 r9 r10 r11 s0 s1 s2 s3 s4 s5 s6 s7 s8 s9 s10 s11
    replace HX : Hid (Boxes w w.heap.size N3 N4 N5 x a' x.pl x.pl x.f10 hand w18) := HX.out.next ((Below.refl _ _).alloc (Nat.le_refl _) _) hb
    clear hb
    obtain ⟨⟨p0, p1, p2, p3, p4, p5, p6, p7, p8, p9, p10, p11⟩, ⟨q0, q1, q2, q3, q4, q5, q6, q7, q8, q9, q10, q11⟩, ⟨r0, r1, r2, r3, r4, r5, r6, r7, r8, r9, r10, r11⟩, ⟨s0, s1, s2, s3, s4, s5, s6, s7, s8, s9, s10, s11⟩⟩ := (⟨HX.out.b1, HX.out.b3, HX.out.b4, HX.out.b5⟩ : _ ∧ _ ∧ _ ∧ _)
    go_wp2_with fail
    refine (set19_none _ _ _ _ _).mono ?_
    rintro e w19 ⟨rfl, hb⟩
    clear p0 p1 p2 p3 p4 p5 p6 p7 p8 p9 p10 p11 q0 q1 q2 q3 q4 q5 q6 q7 q8 q9 q10 q11 r0 r1 r2 r3 r4 r5 r6 r7 r8 r9 r10 r11 s0 s1 s2 s3 s4 s5 s6 s7 s8 s9 s10 s11
    replace HX : Hid (Boxes w w.heap.size N3 N4 N5 x a' x.pl x.pl x.f10 hand w19) := HX.out.next (Below.refl _ _) hb
    clear hb
    go_wp2
    go_ret
    exact ⟨rfl, HX.out.frame⟩
  · have hr1 : ((x.f10.size : Int) == 0) = false := by rw [beq_eq_false_iff_ne]; omega
    have hmr := mk_some x.f10 hr
    clear hr
    go_wp2_with fail

    refine (to17 x a' x.pl x.pl x.f10 _).mono ?_
    rintro e w6 ⟨rfl, hb6⟩
    obtain ⟨N4, hN4⟩ : ∃ N, N = w5.heap.size := ⟨_, rfl⟩
    have H4 : Hid (Box w6 N4 x a' x.pl x.pl x.f10) := by rw [hN4]; exact (Box.new w5 x a' x.pl x.pl x.f10 43).below hb6
    replace H3 : Hid (Box w6 N3 x a' x.pl x.pl x.f10) := (H3.out.past _).below hb6
    replace HY : Hid (Box w6 w.heap.size x a' x.pl x.pl x.f10) := (HY.out.past _).below hb6
    replace HF : Hid (Below w.heap.size w w6) := (HF.out.alloc HF.out.size _).trans (hb6.mono (by have := HF.out.size; simp; omega))
    rw [← hN4]
    clear hb6 p0 p1 p2 p3 p4 p5 p6 p7 p8 p9 p10 p11 hN4 hr1
    obtain ⟨p0, p1, p2, p3, p4, p5, p6, p7, p8, p9, p10, p11⟩ := HY.out
    obtain ⟨q0, q1, q2, q3, q4, q5, q6, q7, q8, q9, q10, q11⟩ := H3.out
    go_wp2_with fail

    refine (tx18_any _ _ _ _ _ _).mono ?_
    rintro e w7 ⟨rfl, hb7⟩
    obtain ⟨N5, hN5⟩ : ∃ N, N = w6.heap.size := ⟨_, rfl⟩
    have HX : Hid (Boxes w w.heap.size N3 N4 N5 x a' x.pl x.pl x.f10 x.f10 w7) := by
      rw [hN5]
      exact ⟨((HF.out.alloc HF.out.size _).alloc (by have := HF.out.size; simp; omega) _).trans (hb7.mono (by have := HF.out.size; simp; omega)), ((HY.out.past _).past _).below hb7, ((H3.out.past _).past _).below hb7, ((H4.out.past _).past _).below hb7, ((Box.new w6 x a' x.pl x.pl ⟨#[]⟩ 43).past _).below hb7⟩
    have hN : Box w7 (w6.heap.size + 1) x a' x.pl x.pl x.f10 := by
      have := (Box.new (w6.alloc (.cells #[.string x.f0, .string x.f1, .string x.f2, .slice a' x.pl x.pl, .string x.f4, .int .i64 x.f5, .string x.f6, .bool x.f7, .bool x.f8, .int .i64 x.f9, .string ⟨#[]⟩] 43)) x a' x.pl x.pl x.f10 43).below hb7
      simpa using this
    have HN : Hid (Box w7 (N5 + 1) x a' x.pl x.pl x.f10) := by rw [hN5]; exact hN
    clear hN
    rw [← hN5]
    clear hb7 HY HF H3 H4 hN5 p0 p1 p2 p3 p4 p5 p6 p7 p8 p9 p10 p11 q0 q1 q2 q3 q4 q5 q6 q7 q8 q9 q10 q11
    obtain ⟨⟨p0, p1, p2, p3, p4, p5, p6, p7, p8, p9, p10, p11⟩, ⟨q0, q1, q2, q3, q4, q5, q6, q7, q8, q9, q10, q11⟩, ⟨r0, r1, r2, r3, r4, r5, r6, r7, r8, r9, r10, r11⟩, ⟨s0, s1, s2, s3, s4, s5, s6, s7, s8, s9, s10, s11⟩⟩ := (⟨HX.out.b1, HX.out.b3, HX.out.b4, HX.out.b5⟩ : _ ∧ _ ∧ _ ∧ _)
    go_wp2_with fail
    refine (set19_one _ _ _ x a' x.pl x.pl x.f10 _ HN.out).mono ?_
    rintro e w8 ⟨rfl, hb⟩
    clear p0 p1 p2 p3 p4 p5 p6 p7 p8 p9 p10 p11 q0 q1 q2 q3 q4 q5 q6 q7 q8 q9 q10 q11 r0 r1 r2 r3 r4 r5 r6 r7 r8 r9 r10 r11 s0 s1 s2 s3 s4 s5 s6 s7 s8 s9 s10 s11
    replace HX : Hid (Boxes w w.heap.size N3 N4 N5 x a' x.pl x.pl x.f10 x.f10 w8) := HX.out.next (Below.refl _ _) hb
    clear hb HN
    obtain ⟨⟨p0, p1, p2, p3, p4, p5, p6, p7, p8, p9, p10, p11⟩, ⟨q0, q1, q2, q3, q4, q5, q6, q7, q8, q9, q10, q11⟩, ⟨r0, r1, r2, r3, r4, r5, r6, r7, r8, r9, r10, r11⟩, ⟨s0, s1, s2, s3, s4, s5, s6, s7, s8, s9, s10, s11⟩⟩ := (⟨HX.out.b1, HX.out.b3, HX.out.b4, HX.out.b5⟩ : _ ∧ _ ∧ _ ∧ _)
    go_wp2_with fail
    refine (set20 x a' x.pl x.pl x.f10 _).mono ?_
    rintro e w9 ⟨rfl, hb⟩
    clear p0 p1 p2 p3 p4 p5 p6 p7 p8 p9 p10 p11 q0 q1 q2 q3 q4 q5 q6 q7 q8 q9 q10 q11 r0 r1 r2 r3 r4 r5 r6 r7 r8 r9 r10 r11 s0 s1 s2 s3 s4 s5 s6 s7 s8 s9 s10 s11
    replace HX : Hid (Boxes w w.heap.size N3 N4 N5 x a' x.pl x.pl x.f10 x.f10 w9) := HX.out.next (Below.refl _ _) hb
    clear hb
    obtain ⟨⟨p0, p1, p2, p3, p4, p5, p6, p7, p8, p9, p10, p11⟩, ⟨q0, q1, q2, q3, q4, q5, q6, q7, q8, q9, q10, q11⟩, ⟨r0, r1, r2, r3, r4, r5, r6, r7, r8, r9, r10, r11⟩, ⟨s0, s1, s2, s3, s4, s5, s6, s7, s8, s9, s10, s11⟩⟩ := (⟨HX.out.b1, HX.out.b3, HX.out.b4, HX.out.b5⟩ : _ ∧ _ ∧ _ ∧ _)
    go_wp2_with fail
    refine (set20 x a' x.pl x.pl x.f10 _).mono ?_
    rintro e w10 ⟨rfl, hb⟩
    clear p0 p1 p2 p3 p4 p5 p6 p7 p8 p9 p10 p11 q0 q1 q2 q3 q4 q5 q6 q7 q8 q9 q10 q11 r0 r1 r2 r3 r4 r5 r6 r7 r8 r9 r10 r11 s0 s1 s2 s3 s4 s5 s6 s7 s8 s9 s10 s11
    replace HX : Hid (Boxes w w.heap.size N3 N4 N5 x a' x.pl x.pl x.f10 x.f10 w10) := HX.out.next (Below.refl _ _) hb
    clear hb
    obtain ⟨⟨p0, p1, p2, p3, p4, p5, p6, p7, p8, p9, p10, p11⟩, ⟨q0, q1, q2, q3, q4, q5, q6, q7, q8, q9, q10, q11⟩, ⟨r0, r1, r2, r3, r4, r5, r6, r7, r8, r9, r10, r11⟩, ⟨s0, s1, s2, s3, s4, s5, s6, s7, s8, s9, s10, s11⟩⟩ := (⟨HX.out.b1, HX.out.b3, HX.out.b4, HX.out.b5⟩ : _ ∧ _ ∧ _ ∧ _)
    go_wp2_with fail
    have HN : Hid _ := Box.new w10 x a' x.pl x.pl x.f10 43
    refine (tx18_any _ _ _ _ _ _).mono ?_
    rintro e w11 ⟨rfl, hb⟩
    replace HN : Hid (Box w11 w10.heap.size x a' x.pl x.pl x.f10) := HN.out.below hb
    clear p0 p1 p2 p3 p4 p5 p6 p7 p8 p9 p10 p11 q0 q1 q2 q3 q4 q5 q6 q7 q8 q9 q10 q11 r0 r1 r2 r3 r4 r5 r6 r7 r8 r9 r10 r11 s0 s1 s2 s3 s4 s5 s6 s7 s8 s9 s10 s11
    replace HX : Hid (Boxes w w.heap.size N3 N4 N5 x a' x.pl x.pl x.f10 x.f10 w11) := HX.out.next ((Below.refl _ _).alloc (Nat.le_refl _) _) hb
    clear hb
    obtain ⟨⟨p0, p1, p2, p3, p4, p5, p6, p7, p8, p9, p10, p11⟩, ⟨q0, q1, q2, q3, q4, q5, q6, q7, q8, q9, q10, q11⟩, ⟨r0, r1, r2, r3, r4, r5, r6, r7, r8, r9, r10, r11⟩, ⟨s0, s1, s2, s3, s4, s5, s6, s7, s8, s9, s10, s11⟩⟩ := (⟨HX.out.b1, HX.out.b3, HX.out.b4, HX.out.b5⟩ : _ ∧ _ ∧ _ ∧ _)
    go_wp2_with fail
    refine (set19_one _ _ _ x a' x.pl x.pl x.f10 _ HN.out).mono ?_
    rintro e w12 ⟨rfl, hb⟩
    clear p0 p1 p2 p3 p4 p5 p6 p7 p8 p9 p10 p11 q0 q1 q2 q3 q4 q5 q6 q7 q8 q9 q10 q11 r0 r1 r2 r3 r4 r5 r6 r7 r8 r9 r10 r11 s0 s1 s2 s3 s4 s5 s6 s7 s8 s9 s10 s11
    replace HX : Hid (Boxes w w.heap.size N3 N4 N5 x a' x.pl x.pl x.f10 x.f10 w12) := HX.out.next (Below.refl _ _) hb
    clear hb HN
    obtain ⟨⟨p0, p1, p2, p3, p4, p5, p6, p7, p8, p9, p10, p11⟩, ⟨q0, q1, q2, q3, q4, q5, q6, q7, q8, q9, q10, q11⟩, ⟨r0, r1, r2, r3, r4, r5, r6, r7, r8, r9, r10, r11⟩, ⟨s0, s1, s2, s3, s4, s5, s6, s7, s8, s9, s10, s11⟩⟩ := (⟨HX.out.b1, HX.out.b3, HX.out.b4, HX.out.b5⟩ : _ ∧ _ ∧ _ ∧ _)
    go_wp2_with fail
    refine (set20 x a' x.pl x.pl ⟨#[]⟩ _).mono ?_
    rintro e w13 ⟨rfl, hb⟩
    clear p0 p1 p2 p3 p4 p5 p6 p7 p8 p9 p10 p11 q0 q1 q2 q3 q4 q5 q6 q7 q8 q9 q10 q11 r0 r1 r2 r3 r4 r5 r6 r7 r8 r9 r10 r11 s0 s1 s2 s3 s4 s5 s6 s7 s8 s9 s10 s11
    replace HX : Hid (Boxes w w.heap.size N3 N4 N5 x a' x.pl x.pl x.f10 x.f10 w13) := HX.out.next (Below.refl _ _) hb
    clear hb
    obtain ⟨⟨p0, p1, p2, p3, p4, p5, p6, p7, p8, p9, p10, p11⟩, ⟨q0, q1, q2, q3, q4, q5, q6, q7, q8, q9, q10, q11⟩, ⟨r0, r1, r2, r3, r4, r5, r6, r7, r8, r9, r10, r11⟩, ⟨s0, s1, s2, s3, s4, s5, s6, s7, s8, s9, s10, s11⟩⟩ := (⟨HX.out.b1, HX.out.b3, HX.out.b4, HX.out.b5⟩ : _ ∧ _ ∧ _ ∧ _)
    go_wp2_with fail
    have HN : Hid _ := Box.new w13 x a' x.pl x.pl ⟨#[]⟩ 43
    refine (tx18_any _ _ _ _ _ _).mono ?_
    rintro e w14 ⟨rfl, hb⟩
    replace HN : Hid (Box w14 w13.heap.size x a' x.pl x.pl ⟨#[]⟩) := HN.out.below hb
    clear p0 p1 p2 p3 p4 p5 p6 p7 p8 p9 p10 p11 q0 q1 q2 q3 q4 q5 q6 q7 q8 q9 q10 q11 r0 r1 r2 r3 r4 r5 r6 r7 r8 r9 r10 r11 s0 s1 s2 s3 s4 s5 s6 s7 s8 s9 s10 s11
    replace HX : Hid (Boxes w w.heap.size N3 N4 N5 x a' x.pl x.pl x.f10 x.f10 w14) := HX.out.next ((Below.refl _ _).alloc (Nat.le_refl _) _) hb
    clear hb
    obtain ⟨⟨p0, p1, p2, p3, p4, p5, p6, p7, p8, p9, p10, p11⟩, ⟨q0, q1, q2, q3, q4, q5, q6, q7, q8, q9, q10, q11⟩, ⟨r0, r1, r2, r3, r4, r5, r6, r7, r8, r9, r10, r11⟩, ⟨s0, s1, s2, s3, s4, s5, s6, s7, s8, s9, s10, s11⟩⟩ := (⟨HX.out.b1, HX.out.b3, HX.out.b4, HX.out.b5⟩ : _ ∧ _ ∧ _ ∧ _)
    go_wp2_with fail
    refine (set19_one _ _ _ x a' x.pl x.pl ⟨#[]⟩ _ HN.out).mono ?_
    rintro e w15 ⟨rfl, hb⟩
    clear p0 p1 p2 p3 p4 p5 p6 p7 p8 p9 p10 p11 q0 q1 q2 q3 q4 q5 q6 q7 q8 q9 q10 q11 r0 r1 r2 r3 r4 r5 r6 r7 r8 r9 r10 r11 s0 s1 s2 s3 s4 s5 s6 s7 s8 s9 s10 s11
    replace HX : Hid (Boxes w w.heap.size N3 N4 N5 x a' x.pl x.pl x.f10 x.f10 w15) := HX.out.next (Below.refl _ _) hb
    clear hb HN
    obtain ⟨⟨p0, p1, p2, p3, p4, p5, p6, p7, p8, p9, p10, p11⟩, ⟨q0, q1, q2, q3, q4, q5, q6, q7, q8, q9, q10, q11⟩, ⟨r0, r1, r2, r3, r4, r5, r6, r7, r8, r9, r10, r11⟩, ⟨s0, s1, s2, s3, s4, s5, s6, s7, s8, s9, s10, s11⟩⟩ := (⟨HX.out.b1, HX.out.b3, HX.out.b4, HX.out.b5⟩ : _ ∧ _ ∧ _ ∧ _)
    go_wp2_with fail
    refine (tx18_any _ _ _ _ _ _).mono ?_
    rintro e w16 ⟨rfl, hb⟩
    clear p0 p1 p2 p3 p4 p5 p6 p7 p8 p9 p10 p11 q0 q1 q2 q3 q4 q5 q6 q7 q8 q9 q10 q11 r0 r1 r2 r3 r4 r5 r6 r7 r8 r9 r10 r11 s0 s1 s2 s3 s4 s5 s6 s7 s8 s9 s10 s11
    replace HX : Hid (Boxes w w.heap.size N3 N4 N5 x a' x.pl x.pl x.f10 x.f10 w16) := HX.out.next (Below.refl _ _) hb
    clear hb
    obtain ⟨⟨p0, p1, p2, p3, p4, p5, p6, p7, p8, p9, p10, p11⟩, ⟨q0, q1, q2, q3, q4, q5, q6, q7, q8, q9, q10, q11⟩, ⟨r0, r1, r2, r3, r4, r5, r6, r7, r8, r9, r10, r11⟩, ⟨s0, s1, s2, s3, s4, s5, s6, s7, s8, s9, s10, s11⟩⟩ := (⟨HX.out.b1, HX.out.b3, HX.out.b4, HX.out.b5⟩ : _ ∧ _ ∧ _ ∧ _)
    go_wp2_with fail
    refine (set19_none _ _ _ _ _).mono ?_
    rintro e w17 ⟨rfl, hb⟩
    clear p0 p1 p2 p3 p4 p5 p6 p7 p8 p9 p10 p11 q0 q1 q2 q3 q4 q5 q6 q7 q8 q9 q10 q11 r0 r1 r2 r3 r4 r5 r6 r7 r8 r9 r10 r11 s0 s1 s2 s3 s4 s5 s6 s7 s8 s9 s10 s11
    replace HX : Hid (Boxes w w.heap.size N3 N4 N5 x a' x.pl x.pl x.f10 x.f10 w17) := HX.out.next (Below.refl _ _) hb
    clear hb
    obtain ⟨⟨p0, p1, p2, p3, p4, p5, p6, p7, p8, p9, p10, p11⟩, ⟨q0, q1, q2, q3, q4, q5, q6, q7, q8, q9, q10, q11⟩, ⟨r0, r1, r2, r3, r4, r5, r6, r7, r8, r9, r10, r11⟩, ⟨s0, s1, s2, s3, s4, s5, s6, s7, s8, s9, s10, s11⟩⟩ := (⟨HX.out.b1, HX.out.b3, HX.out.b4, HX.out.b5⟩ : _ ∧ _ ∧ _ ∧ _)
    go_wp2_with fail
    refine (tx18_any _ _ _ _ _ _).mono ?_
    rintro e w18 ⟨rfl, hb⟩
    clear p0 p1 p2 p3 p4 p5 p6 p7 p8 p9 p10 p11 q0 q1 q2 q3 q4 q5 q6 q7 q8 q9 q10 q11 r0 r1 r2 r3 r4 r5 r6 r7 r8 r9 r10 r11 s0 s1 s2 s3 s4 s5 s6 s7 s8 s9 s10 s11
    replace HX : Hid (Boxes w w.heap.size N3 N4 N5 x a' x.pl x.pl x.f10 x.f10 w18) := HX.out.next ((Below.refl _ _).alloc (Nat.le_refl _) _) hb
    clear hb
    obtain ⟨⟨p0, p1, p2, p3, p4, p5, p6, p7, p8, p9, p10, p11⟩, ⟨q0, q1, q2, q3, q4, q5, q6, q7, q8, q9, q10, q11⟩, ⟨r0, r1, r2, r3, r4, r5, r6, r7, r8, r9, r10, r11⟩, ⟨s0, s1, s2, s3, s4, s5, s6, s7, s8, s9, s10, s11⟩⟩ := (⟨HX.out.b1, HX.out.b3, HX.out.b4, HX.out.b5⟩ : _ ∧ _ ∧ _ ∧ _)
    go_wp2_with fail
    refine (set19_none _ _ _ _ _).mono ?_
    rintro e w19 ⟨rfl, hb⟩
    clear p0 p1 p2 p3 p4 p5 p6 p7 p8 p9 p10 p11 q0 q1 q2 q3 q4 q5 q6 q7 q8 q9 q10 q11 r0 r1 r2 r3 r4 r5 r6 r7 r8 r9 r10 r11 s0 s1 s2 s3 s4 s5 s6 s7 s8 s9 s10 s11
    replace HX : Hid (Boxes w w.heap.size N3 N4 N5 x a' x.pl x.pl x.f10 x.f10 w19) := HX.out.next (Below.refl _ _) hb
    clear hb
    go_wp2
    go_ret
    exact ⟨rfl, HX.out.frame⟩
end Go.Proofs.Qxb6604750a
