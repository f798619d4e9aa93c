import Derived.Test.Qxb6604750aAddRows
import Derived.Test.Qxb6604750aLoneMain
namespace Go.Proofs.Qxb6604750a
open Go.RowKit
set_option linter.unusedSimpArgs false
set_option linter.unusedVariables false

/-- One dot. -/
def dotR : ByteArray := ⟨#[46]⟩
theorem mk_dot : mk dotR = true := by rw [mk, Lib.toList_data]; rfl

theorem any_last (ys : List Br) (x : Br) (p : Option Addr) (n c : Nat) (r : ByteArray) : (ys ++ [x.alt p n c r]).any marked = (ys.any marked || mk r) := by
  rw [List.any_append]; simp [marked_alt]
theorem any_first (ys : List Br) (x : Br) (p : Option Addr) (n c : Nat) (r : ByteArray) : (x.alt p n c r :: ys).any marked = (mk r || ys.any marked) := by
  rw [List.any_cons, marked_alt]

/-- A list's transaction: settled just when one of the list is. -/
theorem set19_list (g s : ByteArray) (B n : Nat) (zs : List Br) (w : World) (v : Bool) (h : Brs w (some ⟨B, 0, none⟩) B 0 zs) (hl : zs.length = n) (hn : n ≤ 1048576) (hv : zs.any marked = v) :
    Calls Try.prog 19 #[.agg #[.string g, .string s, .int .i64 0, .int .u64 0, .int .i64 0, .pointer none, .int .u64 0, .int .i64 0, .pointer none, .slice (some ⟨B, 0, none⟩) n n]] w fun e w' => e = .returned (.bool v) ∧ Below w.heap.size w w' := by
  rw [← hv]
  exact settled19_any g s _ n n B 0 zs w hl hn h

theorem Brs.setOther {w : World} {a : Option Addr} {b o : Nat} {xs : List Br} (h : Brs w a b o xs) {B i : Nat} (hne : b ≠ B) (v : Value) : Brs (w.setCell ⟨B, i, none⟩ v) a b o xs where
  addr := fun e => ⟨(h.addr e).1, by simpa using (h.addr e).2⟩
  cells := fun j y hy => (h.cells j y hy).same fun k => World.cell?_of_block (Below.heap_setCell _ _ _ _ (by show b ≠ B; exact hne))

theorem count_take {ys : List Br} {j : Nat} {x : Br} (h : ys[j]? = some x) : (ys.take (j + 1)).countP marked = (ys.take j).countP marked + (if 0 < x.f10.size then 1 else 0) := by
  rw [take_snoc h, List.countP_append]
  simp [marked_size]

/-- The count under way, upward. -/
structure AtUp (ys : List Br) (n : Nat) (c i : Value) (k m : Nat) : Prop where
  hle : k ≤ n
  hi : i = .int .i64 (k : Int)
  hc : c = .int .i64 m
  hm : m ≤ k
  cnt : m = (ys.take k).countP marked
def InUp (ys : List Br) (n : Nat) (c i : Value) : Prop := ∃ k m, AtUp ys n c i k m

set_option maxRecDepth 100000 in
set_option maxHeartbeats 8000000 in
theorem added_any (g s : ByteArray) (a : Option Addr) (n c b o : Nat) (xs : List Br) (x : Br) (pb po : Nat) (w : World) (HN : Hid (xs.length = n)) (hn : n ≤ maxLen) (hnil : a = none → n = 0) (HX : Hid (Brs w a b o xs)) (HP : Hid (Pays w xs)) (HPx : Hid (Pay w x.pa x.pl pb po)) :
    Calls Try.prog 7 #[.string g, .string s, .slice a n c, .agg #[.string x.f0, .string x.f1, .string x.f2, .slice x.pa x.pl x.pc, .string x.f4, .int .i64 x.f5, .string x.f6, .bool x.f7, .bool x.f8, .int .i64 x.f9, .string x.f10]] w fun e w' => e = .returned (.bool true) ∧ Below w.heap.size w w' := by
  replace hnil : Hid (a = none → n = 0) := hnil
  have HF0 : Hid (∀ o, Below w.heap.size w (w.alloc o)) := fun o => (Below.refl _ _).alloc (Nat.le_refl _) o
  go_enter Try.func7, Try.ntmps7
  go_wp2_with fail
  refine (bytes25_any g s a n c b o xs x _ HN hn (HX.out.below (HF0.out _))).mono ?_
  rintro e w1 ⟨r, rfl, hb1, hr⟩
  have HF : Hid (Below w.heap.size w w1) := (HF0.out _).trans (hb1.mono (by simp))
  have HE : Hid (Box w1 w.heap.size x x.pa x.pl x.pc x.f10) := (Box.new w x x.pa x.pl x.pc x.f10 35).below hb1
  have hfz : w1.frozen? ⟨w.heap.size, 3, none⟩ = false := by rw [hb1.frozen (p := ⟨w.heap.size, 3, none⟩) (by simp)]; simp
  replace hr : Hid _ := hr
  clear hb1 HF0
  cases r with
  | false =>
    go_wp2
    go_ret
    exact ⟨rfl, HF.out⟩
  | true =>
  obtain ⟨hg, hs, hn2, hsm, hsx⟩ := hr.out rfl
  have HS : Hid (∀ y ∈ xs, Small y) := hsm
  have HSx : Hid (Small x) := hsx
  clear hr hsm hsx hn
  by_cases h4 : 4096 < n
  · go_wp2_with fail
    go_ret
    exact ⟨rfl, HF.out⟩
  replace HX : Hid (Brs w1 a b o xs) := HX.out.below HF.out
  replace HP : Hid (Pays w1 xs) := fun y hy => by obtain ⟨pb, po, h⟩ := HP.out y hy; exact ⟨pb, po, h.below HF.out⟩
  replace HPx : Hid (Pay w1 x.pa x.pl pb po) := HPx.out.below HF.out
  go_wp2_with fail
  refine (add14_any 0 g.size w1 (by omega) (by omega) (by omega) (by omega)).mono ?_
  rintro e w' ⟨m1, rfl, hw', x1, x2⟩
  subst hw'
  go_wp2_with fail
  refine (add14_any m1 s.size w' x1 x2 (by omega) (by omega)).mono ?_
  rintro e w' ⟨m2, rfl, hw', x3, x4⟩
  subst hw'
  go_wp2_with fail
  refine (sizes22_any m2 a n c b o xs w' x3 x4 HN hn2 HX HS).mono ?_
  rintro e w2 ⟨m3, rfl, hb2, x5, x6⟩
  replace HX : Hid (Brs w2 a b o xs) := HX.out.below hb2
  replace HP : Hid (Pays w2 xs) := fun y hy => by obtain ⟨pb, po, h⟩ := HP.out y hy; exact ⟨pb, po, h.below hb2⟩
  replace HPx : Hid (Pay w2 x.pa x.pl pb po) := HPx.out.below hb2
  replace hfz : w2.frozen? ⟨w.heap.size, 3, none⟩ = false := by rw [hb2.frozen (p := ⟨w.heap.size, 3, none⟩) HE.out.lt]; exact hfz
  replace HE : Hid (Box w2 w.heap.size x x.pa x.pl x.pc x.f10) := HE.out.below hb2
  replace HF : Hid (Below w.heap.size w w2) := HF.out.trans (hb2.mono HF.out.size)
  clear hb2 x1 x2 x3 x4
  obtain ⟨c0, c1, c2, c3, c4, c5, c6, c7, c8, c9, c10, c11⟩ := HE.out
  go_wp2_with fail
  refine (size15_any m3 x w2 x5 x6 HSx.out).mono ?_
  rintro e w3 ⟨m4, rfl, hb3, x7, x8⟩
  replace HX : Hid (Brs w3 a b o xs) := HX.out.below hb3
  replace HP : Hid (Pays w3 xs) := fun y hy => by obtain ⟨pb, po, h⟩ := HP.out y hy; exact ⟨pb, po, h.below hb3⟩
  replace HPx : Hid (Pay w3 x.pa x.pl pb po) := HPx.out.below hb3
  replace hfz : w3.frozen? ⟨w.heap.size, 3, none⟩ = false := by rw [hb3.frozen (p := ⟨w.heap.size, 3, none⟩) HE.out.lt]; exact hfz
  replace HE : Hid (Box w3 w.heap.size x x.pa x.pl x.pc x.f10) := HE.out.below hb3
  replace HF : Hid (Below w.heap.size w w3) := HF.out.trans (hb3.mono HF.out.size)
  clear hb3 c0 c1 c2 c3 c4 c5 c6 c7 c8 c9 c10 c11 x5 x6
  go_wp2_with fail
  refine (add14_any m4 1 w3 x7 x8 (by omega) (by omega)).mono ?_
  rintro e w' ⟨m5, rfl, hw', x9, x10⟩
  subst hw'
  by_cases hbig : 1048576 < m5
  · go_wp2_with fail
    go_ret
    exact ⟨rfl, HF.out⟩
  go_wp2_with fail
  refine (clone23_any a n c b o xs w' HN hn2 hnil.out HX HS HP).mono ?_
  rintro e w4 ⟨a', ys, rfl, hb4, hyl, hym, hyb⟩
  obtain ⟨S, hS⟩ : ∃ S, S = w'.heap.size := ⟨_, rfl⟩
  rw [← hS] at hyb
  have hSE : w.heap.size < S := by rw [hS]; exact HE.out.lt
  have HY : Hid (Brs w4 a' S 0 ys) := hyb
  have HN' : Hid (ys.length = n) := hyl
  replace HPx : Hid (Pay w4 x.pa x.pl pb po) := HPx.out.below hb4
  replace hfz : w4.frozen? ⟨w.heap.size, 3, none⟩ = false := by rw [hb4.frozen (p := ⟨w.heap.size, 3, none⟩) HE.out.lt]; exact hfz
  replace HE : Hid (Box w4 w.heap.size x x.pa x.pl x.pc x.f10) := HE.out.below hb4
  replace HF : Hid (Below w.heap.size w w4) := HF.out.trans (hb4.mono HF.out.size)
  clear hb4 hyl hym hyb HX HP HS HN hnil hS x7 x8 x9 x10 hbig
  have c3 := HE.out.h3
  have c11 := HE.out.lt
  go_wp2_with fail
  refine (clone16_any x.pa x.pl x.pc pb po w4 HPx HSx.out.z3).mono ?_
  rintro e w5 ⟨p, rfl, hb5⟩
  replace hfz : w5.frozen? ⟨w.heap.size, 3, none⟩ = false := by rw [hb5.frozen (p := ⟨w.heap.size, 3, none⟩) c11]; exact hfz
  replace HE : Hid (Box w5 w.heap.size x x.pa x.pl x.pc x.f10) := HE.out.below hb5
  replace HY : Hid (Brs w5 a' S 0 ys) := HY.out.below hb5
  replace HF : Hid (Below w.heap.size w w5) := HF.out.trans (hb5.mono HF.out.size)
  clear hb5 c3 c11 HPx HSx
  have c3 := HE.out.h3
  have c11 := HE.out.lt
  have HG : Hid (Box (w5.setCell ⟨w.heap.size, 3, none⟩ (.slice p x.pl x.pl)) w.heap.size x p x.pl x.pl x.f10) := HE.out.setPay p x.pl x.pl
  replace HY : Hid (Brs (w5.setCell ⟨w.heap.size, 3, none⟩ (.slice p x.pl x.pl)) a' S 0 ys) := HY.out.setOther (by omega) _
  replace HF : Hid (Below w.heap.size w (w5.setCell ⟨w.heap.size, 3, none⟩ (.slice p x.pl x.pl))) := HF.out.setCell (Nat.le_refl _) _
  clear hSE HE
  go_wp2_with fail
  refine (to24_any a' n n S 0 ys _ HN' hn2 HY).mono ?_
  rintro e w6 ⟨rfl, hb6, hcp⟩
  obtain ⟨BS, hBS⟩ : ∃ B, B = (w5.setCell ⟨w.heap.size, 3, none⟩ (.slice p x.pl x.pl)).heap.size := ⟨_, rfl⟩
  rw [← hBS] at hcp ⊢
  have HC : Hid (Brs w6 (some ⟨BS, 0, none⟩) BS 0 ys) := hcp.brs
  replace HY : Hid (Brs w6 a' S 0 ys) := HY.out.below hb6
  replace HG : Hid (Box w6 w.heap.size x p x.pl x.pl x.f10) := HG.out.below hb6
  replace HF : Hid (Below w.heap.size w w6) := HF.out.trans (hb6.mono HF.out.size)
  clear hb6 hcp hBS c3 c11 hfz
  obtain ⟨p0, p1, p2, p3, p4, p5, p6, p7, p8, p9, p10, p11⟩ := HG.out
  go_wp2_with fail
  refine (to17 x p x.pl x.pl x.f10 _).mono ?_
  rintro e w7 ⟨rfl, hb7⟩
  replace HC : Hid (Brs w7 (some ⟨BS, 0, none⟩) BS 0 ys) := HC.out.below hb7
  replace HY : Hid (Brs w7 a' S 0 ys) := HY.out.below hb7
  replace HG : Hid (Box w7 w.heap.size x p x.pl x.pl x.f10) := HG.out.below hb7
  replace HF : Hid (Below w.heap.size w w7) := HF.out.trans (hb7.mono HF.out.size)
  clear hb7 p0 p1 p2 p3 p4 p5 p6 p7 p8 p9 p10 p11
  obtain ⟨p0, p1, p2, p3, p4, p5, p6, p7, p8, p9, p10, p11⟩ := HG.out
  go_wp2_with fail
  refine (to17 x p x.pl x.pl x.f10 _).mono ?_
  rintro e w8 ⟨rfl, hb8⟩
  obtain ⟨C, hC⟩ : ∃ N, N = w7.heap.size := ⟨_, rfl⟩
  have HK : Hid (Box w8 C x p x.pl x.pl ⟨#[]⟩) := by rw [hC]; exact (Box.new w7 x p x.pl x.pl ⟨#[]⟩ 43).below hb8
  replace HC : Hid (Brs w8 (some ⟨BS, 0, none⟩) BS 0 ys) := (HC.out.below ((Below.refl _ _).alloc (Nat.le_refl _) _)).below hb8
  replace HY : Hid (Brs w8 a' S 0 ys) := (HY.out.below ((Below.refl _ _).alloc (Nat.le_refl _) _)).below hb8
  replace HG : Hid (Box w8 w.heap.size x p x.pl x.pl x.f10) := (HG.out.past _).below hb8
  replace HF : Hid (Below w.heap.size w w8) := (HF.out.alloc HF.out.size _).trans (hb8.mono (by have := HF.out.size; simp; omega))
  rw [← hC]
  clear hb8 p0 p1 p2 p3 p4 p5 p6 p7 p8 p9 p10 p11 hC
  obtain ⟨p0, p1, p2, p3, p4, p5, p6, p7, p8, p9, p10, p11⟩ := HG.out
  obtain ⟨fr, hfr, hmk⟩ := make43 (n + 1) (by omega)
  rw [show (((n + 1 : Nat)) : Int) = (n : Int) + 1 from by omega] at hmk
  by_cases hr : x.f10.size = 0
  · have hr1 : ((x.f10.size : Int) == 0) = true := by simp [hr]
    have hmr : mk ⟨#[46]⟩ = true := mk_dot
    clear hr
    go_wp2
    obtain ⟨L1, hL1⟩ : ∃ L, L = w8.heap.size + 1 := ⟨_, rfl⟩
    rw [← hL1]
    obtain ⟨L2, hL2⟩ : ∃ L, L = L1 + 1 := ⟨_, rfl⟩
    rw [← hL2]
    obtain ⟨L3, hL3⟩ : ∃ L, L = L2 + 1 := ⟨_, rfl⟩
    rw [← hL3]
    obtain ⟨M, hM⟩ : ∃ M, M = w8.heap.size := ⟨_, rfl⟩
    rw [← hM]
    obtain ⟨W0, hW0⟩ : ∃ W0, W0 = w8.alloc (.cells #[.string x.f0, .string x.f1, .string x.f2, .slice p x.pl x.pl, .string x.f4, .int .i64 x.f5, .string x.f6, .bool x.f7, .bool x.f8, .int .i64 x.f9, .string ⟨#[46]⟩] 43) := ⟨_, rfl⟩
    rw [← hW0]
    have hsz : W0.heap.size = L1 := by rw [hW0, hL1]; simp
    have HT0 : Hid (Trip W0 L1 L2 L3 n ys 0 (((W0.alloc (.cells fr 43)).alloc (.cells fr 43)).alloc (.cells fr 43))) := by
      have := Trip.start W0 fr n ys hfr
      rw [hsz] at this
      rw [hL3, hL2]; exact this
    replace HC : Hid (Brs W0 (some ⟨BS, 0, none⟩) BS 0 ys) := by rw [hW0]; exact HC.out.below ((Below.refl _ _).alloc (Nat.le_refl _) _)
    replace HY : Hid (Brs W0 a' S 0 ys) := by rw [hW0]; exact HY.out.below ((Below.refl _ _).alloc (Nat.le_refl _) _)
    replace HK : Hid (Box W0 C x p x.pl x.pl ⟨#[]⟩) := by rw [hW0]; exact HK.out.past _
    have HM : Hid (Box W0 M x p x.pl x.pl ⟨#[46]⟩) := by rw [hW0, hM]; exact Box.new w8 x p x.pl x.pl ⟨#[46]⟩ 43
    replace HF : Hid (Below w.heap.size w W0) := by rw [hW0]; exact HF.out.alloc HF.out.size _
    have HZ : Hid (W0.heap.size = L1) := hsz
    clear hsz hW0 hM hL1 hL2 hL3 hmk hfr p0 p1 p2 p3 p4 p5 p6 p7 p8 p9 p10 p11 HG hr1
    go_loopw [17] (fun i wr => ∃ k : Nat, k ≤ n ∧ i = .int .i64 k ∧ Hid (Trip W0 L1 L2 L3 n ys k wr)) (fun i _ => n - (intOf i).toNat)
    case atStart => exact ⟨0, Nat.zero_le _, rfl, HT0⟩
    case round =>
      obtain ⟨k, hk, rfl, HT⟩ := hrel
      clear HT0
      have d12 := HT.out.l2
      have d23 := HT.out.l3
      by_cases hlt : k < n
      · obtain ⟨y, HI, _, hy, hbs⟩ := HC.out.at (k := k) (by rw [HN'.out]; exact hlt)
        rw [HZ.out] at hbs
        rw [Nat.zero_add] at hy
        obtain ⟨c0, c1, c2, c3, c4, c5, c6, c7, c8, c9, c10⟩ := hy.same (w' := wr) fun i => HT.out.below.cell (p := ⟨BS, i, none⟩) (by rw [HZ.out]; exact hbs)
        clear hy
        obtain ⟨f, g0, g1, g2, g3, g4, g5, g6, g7, g8, g9, g10, gz⟩ := HT.out.r1.cells (k := k) (by omega)
        obtain ⟨f', t0, t1, t2, t3, t4, t5, t6, t7, t8, t9, t10, tz⟩ := HT.out.r2.cells (k := k) (by omega)
        obtain ⟨f2, u0, u1, u2, u3, u4, u5, u6, u7, u8, u9, u10, uz⟩ := HT.out.r3.cells (k := k + 1) (by omega)
        have HT2 : Hid (Trip W0 L1 L2 L3 n ys (k + 1) (put11 (put11 (put11 wr L1 (k * 11) y) L2 (k * 11) y) L3 ((k + 1) * 11) y)) := HT.out.step hlt HI.out
        have n1 : BS ≠ L1 := by omega
        have n2 : BS ≠ L2 := by omega
        have n3 : BS ≠ L3 := by omega
        have n4 : L1 ≠ L2 := by omega
        have n5 : L1 ≠ L3 := by omega
        have n6 : L2 ≠ L3 := by omega
        clear HT
        go_wp2
        go_roundw
        case rel => exact ⟨k + 1, by omega, by go_num, HT2⟩
        case measure => simp [intOf]; omega
      · obtain rfl : k = n := by omega
        obtain ⟨p0, p1, p2, p3, p4, p5, p6, p7, p8, p9, p10, p11⟩ := HK.out.below HT.out.below
        obtain ⟨q0, q1, q2, q3, q4, q5, q6, q7, q8, q9, q10, q11⟩ := HM.out.below HT.out.below
        obtain ⟨f, g0, g1, g2, g3, g4, g5, g6, g7, g8, g9, g10, gz⟩ := HT.out.r1.cells (k := k) (by omega)
        obtain ⟨f', t0, t1, t2, t3, t4, t5, t6, t7, t8, t9, t10, tz⟩ := HT.out.r2.cells (k := k) (by omega)
        obtain ⟨f2, u0, u1, u2, u3, u4, u5, u6, u7, u8, u9, u10, uz⟩ := HT.out.r3.cells (k := 0) (by omega)
        simp only [Nat.zero_mul, Nat.zero_add] at u0 u1 u2 u3 u4 u5 u6 u7 u8 u9 u10
        have hCl := HK.out.lt
        have hMl := HM.out.lt
        rw [HZ.out] at hCl hMl
        have n1 : C ≠ L1 := by omega
        have n2 : C ≠ L2 := by omega
        have n3 : C ≠ L3 := by omega
        have n4 : L1 ≠ L2 := by omega
        have n5 : L1 ≠ L3 := by omega
        have n6 : L2 ≠ L3 := by omega
        have n7 : M ≠ L1 := by omega
        have n8 : M ≠ L2 := by omega
        have n9 : M ≠ L3 := by omega
        obtain ⟨e1, e2, e3, e4⟩ := HT.out.fin HN'.out (x.alt p x.pl x.pl ⟨#[]⟩) (x.alt p x.pl x.pl ⟨#[46]⟩)
        have HX0 : Hid (Fin5 w S BS L1 L2 L3 C a' ys x p (x.alt p x.pl x.pl ⟨#[]⟩) (x.alt p x.pl x.pl ⟨#[46]⟩) (put11 (put11 (put11 wr L1 (k * 11) (x.alt p x.pl x.pl ⟨#[]⟩)) L2 (k * 11) (x.alt p x.pl x.pl ⟨#[46]⟩)) L3 0 (x.alt p x.pl x.pl ⟨#[46]⟩))) :=
          ⟨HF.out.trans (e1.mono HF.out.size), HY.out.below e1, HC.out.below e1, e2, e3, e4, HK.out.below e1⟩
        clear e1 e2 e3 e4 HT
        go_wp2_with fail
        refine (tx18_any _ _ _ _ _ _).mono ?_
        rintro e w9 ⟨rfl, hb9⟩
        have HX : Hid (Fin5 w S BS L1 L2 L3 C a' ys x p (x.alt p x.pl x.pl ⟨#[]⟩) (x.alt p x.pl x.pl ⟨#[46]⟩) w9) := HX0.out.next (Below.refl _ _) hb9
        clear hb9 HX0 HF HY HC HK HM HZ d12 d23 hCl hMl n1 n2 n3 n4 n5 n6 n7 n8 n9 p0 p1 p2 p3 p4 p5 p6 p7 p8 p9 p10 p11 q0 q1 q2 q3 q4 q5 q6 q7 q8 q9 q10 q11 g0 g1 g2 g3 g4 g5 g6 g7 g8 g9 g10 gz t0 t1 t2 t3 t4 t5 t6 t7 t8 t9 t10 tz u0 u1 u2 u3 u4 u5 u6 u7 u8 u9 u10 uz
        obtain ⟨bf, hbf⟩ : ∃ bf, ys.any marked = bf := ⟨_, rfl⟩
        have HBF : Hid (ys.any marked = bf) := hbf
        clear hbf
        go_wp2_with fail
        refine (set19_list g s BS k ys w9 bf HX.out.base HN'.out hn2 HBF.out).mono ?_
        rintro e w10 ⟨rfl, hb10⟩
        replace HX : Hid (Fin5 w S BS L1 L2 L3 C a' ys x p (x.alt p x.pl x.pl ⟨#[]⟩) (x.alt p x.pl x.pl ⟨#[46]⟩) w10) := HX.out.next (Below.refl _ _) hb10
        clear hb10
        go_wp2
        go_loop [19, 20] (fun cv i => InUp ys k cv i) (fun _ i => k - (intOf i).toNat)
        case atStart => exact ⟨0, 0, ⟨Nat.zero_le _, rfl, rfl, Nat.le_refl _, rfl⟩⟩
        case round =>
          obtain ⟨j, m, hj, rfl, rfl, hm, hcnt⟩ := hrel
          have HCN : Hid _ := hcnt
          clear hcnt
          by_cases hjk : j < k
          · obtain ⟨y, HI, hadr, hy, _⟩ := HX.out.src.at (k := j) (by rw [HN'.out]; exact hjk)
            subst hadr
            have c10 := hy.h10
            rw [Nat.zero_add] at c10
            have HCD : Hid _ := count_take HI.out
            clear hy
            by_cases hp : 0 < y.f10.size
            · go_wp2
              go_round
              case rel =>
                have hN : InUp ys k (.int .i64 ((m : Int) + 1)) (.int .i64 ((j : Int) + 1)) := ⟨j + 1, m + 1, ⟨by omega, by go_num, by go_num, by omega, by rw [HCD.out, if_pos hp, ← HCN.out]⟩⟩
                first | exact hN | exact ⟨_, _, hN, rfl, rfl⟩ | exact ⟨_, _, _, hN, rfl, rfl, rfl⟩
              case measure => simp [intOf]; omega
            · go_wp2
              go_round
              case rel =>
                have hN : InUp ys k (.int .i64 (m : Int)) (.int .i64 ((j : Int) + 1)) := ⟨j + 1, m, ⟨by omega, by go_num, rfl, by omega, by rw [HCD.out, if_neg hp, ← HCN.out]; rfl⟩⟩
                first | exact hN | exact ⟨_, _, hN, rfl, rfl⟩ | exact ⟨_, _, _, hN, rfl, rfl, rfl⟩
              case measure => simp [intOf]; omega
          · have hfin : (bf == decide (0 < m)) = true := by
              have h1 := HBF.out; have h2 := HCN.out
              rw [List.take_of_length_le (by rw [HN'.out]; omega)] at h2
              rw [← h1, count_any, ← h2]
              simp
            have hbb : (bf == bf) = true := by simp
            have v1 : (ys ++ [x.alt p x.pl x.pl ⟨#[]⟩]).any marked = bf := by rw [any_last, HBF.out, mk_none]; simp
            have v2 : (ys ++ [x.alt p x.pl x.pl ⟨#[46]⟩]).any marked = true := by rw [any_last, hmr]; simp
            have v3 : (x.alt p x.pl x.pl ⟨#[46]⟩ :: ys).any marked = true := by rw [any_first, hmr]; simp
            have V1 : Hid _ := v1
            have V2 : Hid _ := v2
            have V3 : Hid _ := v3
            have hl1 : ∀ z : Br, (ys ++ [z]).length = k + 1 := fun z => by rw [List.length_append, HN'.out]; rfl
            have hl2 : ∀ z : Br, (z :: ys).length = k + 1 := fun z => by rw [List.length_cons, HN'.out]
            have HL1 : Hid (∀ z : Br, (ys ++ [z]).length = k + 1) := hl1
            have HL2 : Hid (∀ z : Br, (z :: ys).length = k + 1) := hl2
            have hme := mk_none
            clear v1 v2 v3 hl1 hl2 hmr HBF HCN
            go_wp2_with fail
            refine (tx18_any _ _ _ _ _ _).mono ?_
            rintro e w11 ⟨rfl, hb⟩
            replace HX : Hid (Fin5 w S BS L1 L2 L3 C a' ys x p (x.alt p x.pl x.pl ⟨#[]⟩) (x.alt p x.pl x.pl ⟨#[46]⟩) w11) := HX.out.next (Below.refl _ _) hb
            clear hb
            go_wp2_with fail
            refine (set19_list g s L1 (k + 1) _ w11 bf HX.out.l1 (HL1.out _) (by omega) V1.out).mono ?_
            rintro e w12 ⟨rfl, hb⟩
            replace HX : Hid (Fin5 w S BS L1 L2 L3 C a' ys x p (x.alt p x.pl x.pl ⟨#[]⟩) (x.alt p x.pl x.pl ⟨#[46]⟩) w12) := HX.out.next (Below.refl _ _) hb
            clear hb
            go_wp2_with fail
            refine (tx18_any _ _ _ _ _ _).mono ?_
            rintro e w13 ⟨rfl, hb⟩
            replace HX : Hid (Fin5 w S BS L1 L2 L3 C a' ys x p (x.alt p x.pl x.pl ⟨#[]⟩) (x.alt p x.pl x.pl ⟨#[46]⟩) w13) := HX.out.next (Below.refl _ _) hb
            clear hb
            go_wp2_with fail
            refine (set19_list g s L2 (k + 1) _ w13 true HX.out.l2 (HL1.out _) (by omega) V2.out).mono ?_
            rintro e w14 ⟨rfl, hb⟩
            replace HX : Hid (Fin5 w S BS L1 L2 L3 C a' ys x p (x.alt p x.pl x.pl ⟨#[]⟩) (x.alt p x.pl x.pl ⟨#[46]⟩) w14) := HX.out.next (Below.refl _ _) hb
            clear hb
            go_wp2_with fail
            refine (tx18_any _ _ _ _ _ _).mono ?_
            rintro e w15 ⟨rfl, hb⟩
            replace HX : Hid (Fin5 w S BS L1 L2 L3 C a' ys x p (x.alt p x.pl x.pl ⟨#[]⟩) (x.alt p x.pl x.pl ⟨#[46]⟩) w15) := HX.out.next (Below.refl _ _) hb
            clear hb
            go_wp2_with fail
            refine (set19_list g s L3 (k + 1) _ w15 true HX.out.l3 (HL2.out _) (by omega) V3.out).mono ?_
            rintro e w16 ⟨rfl, hb⟩
            replace HX : Hid (Fin5 w S BS L1 L2 L3 C a' ys x p (x.alt p x.pl x.pl ⟨#[]⟩) (x.alt p x.pl x.pl ⟨#[46]⟩) w16) := HX.out.next (Below.refl _ _) hb
            clear hb
            obtain ⟨p0, p1, p2, p3, p4, p5, p6, p7, p8, p9, p10, p11⟩ := HX.out.box
            go_wp2_with fail
            refine (tx18_any _ _ _ _ _ _).mono ?_
            rintro e w17 ⟨rfl, hb⟩
            have HB1 : Hid (Box w17 w16.heap.size x p x.pl x.pl ⟨#[]⟩) := (Box.new w16 x p x.pl x.pl ⟨#[]⟩ 43).below hb
            replace HX : Hid (Fin5 w S BS L1 L2 L3 C a' ys x p (x.alt p x.pl x.pl ⟨#[]⟩) (x.alt p x.pl x.pl ⟨#[46]⟩) w17) := HX.out.next ((Below.refl _ _).alloc (Nat.le_refl _) _) hb
            clear hb p0 p1 p2 p3 p4 p5 p6 p7 p8 p9 p10 p11
            go_wp2_with fail
            refine (set19_one g s w16.heap.size x p x.pl x.pl ⟨#[]⟩ w17 HB1.out).mono ?_
            rintro e w18 ⟨rfl, hb⟩
            replace HX : Hid (Fin5 w S BS L1 L2 L3 C a' ys x p (x.alt p x.pl x.pl ⟨#[]⟩) (x.alt p x.pl x.pl ⟨#[46]⟩) w18) := HX.out.next (Below.refl _ _) hb
            clear hb HB1
            go_wp2
            go_ret
            exact ⟨rfl, HX.out.frame⟩
  · have hr1 : ((x.f10.size : Int) == 0) = false := by rw [beq_eq_false_iff_ne]; omega
    have hmr := mk_some x.f10 hr
    clear hr
    go_wp2
    obtain ⟨L1, hL1⟩ : ∃ L, L = w8.heap.size + 1 := ⟨_, rfl⟩
    rw [← hL1]
    obtain ⟨L2, hL2⟩ : ∃ L, L = L1 + 1 := ⟨_, rfl⟩
    rw [← hL2]
    obtain ⟨L3, hL3⟩ : ∃ L, L = L2 + 1 := ⟨_, rfl⟩
    rw [← hL3]
    obtain ⟨M, hM⟩ : ∃ M, M = w8.heap.size := ⟨_, rfl⟩
    rw [← hM]
    obtain ⟨W0, hW0⟩ : ∃ W0, W0 = w8.alloc (.cells #[.string x.f0, .string x.f1, .string x.f2, .slice p x.pl x.pl, .string x.f4, .int .i64 x.f5, .string x.f6, .bool x.f7, .bool x.f8, .int .i64 x.f9, .string x.f10] 43) := ⟨_, rfl⟩
    rw [← hW0]
    have hsz : W0.heap.size = L1 := by rw [hW0, hL1]; simp
    have HT0 : Hid (Trip W0 L1 L2 L3 n ys 0 (((W0.alloc (.cells fr 43)).alloc (.cells fr 43)).alloc (.cells fr 43))) := by
      have := Trip.start W0 fr n ys hfr
      rw [hsz] at this
      rw [hL3, hL2]; exact this
    replace HC : Hid (Brs W0 (some ⟨BS, 0, none⟩) BS 0 ys) := by rw [hW0]; exact HC.out.below ((Below.refl _ _).alloc (Nat.le_refl _) _)
    replace HY : Hid (Brs W0 a' S 0 ys) := by rw [hW0]; exact HY.out.below ((Below.refl _ _).alloc (Nat.le_refl _) _)
    replace HK : Hid (Box W0 C x p x.pl x.pl ⟨#[]⟩) := by rw [hW0]; exact HK.out.past _
    have HM : Hid (Box W0 M x p x.pl x.pl x.f10) := by rw [hW0, hM]; exact Box.new w8 x p x.pl x.pl x.f10 43
    replace HF : Hid (Below w.heap.size w W0) := by rw [hW0]; exact HF.out.alloc HF.out.size _
    have HZ : Hid (W0.heap.size = L1) := hsz
    clear hsz hW0 hM hL1 hL2 hL3 hmk hfr p0 p1 p2 p3 p4 p5 p6 p7 p8 p9 p10 p11 HG hr1
    go_loopw [17] (fun i wr => ∃ k : Nat, k ≤ n ∧ i = .int .i64 k ∧ Hid (Trip W0 L1 L2 L3 n ys k wr)) (fun i _ => n - (intOf i).toNat)
    case atStart => exact ⟨0, Nat.zero_le _, rfl, HT0⟩
    case round =>
      obtain ⟨k, hk, rfl, HT⟩ := hrel
      clear HT0
      have d12 := HT.out.l2
      have d23 := HT.out.l3
      by_cases hlt : k < n
      · obtain ⟨y, HI, _, hy, hbs⟩ := HC.out.at (k := k) (by rw [HN'.out]; exact hlt)
        rw [HZ.out] at hbs
        rw [Nat.zero_add] at hy
        obtain ⟨c0, c1, c2, c3, c4, c5, c6, c7, c8, c9, c10⟩ := hy.same (w' := wr) fun i => HT.out.below.cell (p := ⟨BS, i, none⟩) (by rw [HZ.out]; exact hbs)
        clear hy
        obtain ⟨f, g0, g1, g2, g3, g4, g5, g6, g7, g8, g9, g10, gz⟩ := HT.out.r1.cells (k := k) (by omega)
        obtain ⟨f', t0, t1, t2, t3, t4, t5, t6, t7, t8, t9, t10, tz⟩ := HT.out.r2.cells (k := k) (by omega)
        obtain ⟨f2, u0, u1, u2, u3, u4, u5, u6, u7, u8, u9, u10, uz⟩ := HT.out.r3.cells (k := k + 1) (by omega)
        have HT2 : Hid (Trip W0 L1 L2 L3 n ys (k + 1) (put11 (put11 (put11 wr L1 (k * 11) y) L2 (k * 11) y) L3 ((k + 1) * 11) y)) := HT.out.step hlt HI.out
        have n1 : BS ≠ L1 := by omega
        have n2 : BS ≠ L2 := by omega
        have n3 : BS ≠ L3 := by omega
        have n4 : L1 ≠ L2 := by omega
        have n5 : L1 ≠ L3 := by omega
        have n6 : L2 ≠ L3 := by omega
        clear HT
        go_wp2
        go_roundw
        case rel => exact ⟨k + 1, by omega, by go_num, HT2⟩
        case measure => simp [intOf]; omega
      · obtain rfl : k = n := by omega
        obtain ⟨p0, p1, p2, p3, p4, p5, p6, p7, p8, p9, p10, p11⟩ := HK.out.below HT.out.below
        obtain ⟨q0, q1, q2, q3, q4, q5, q6, q7, q8, q9, q10, q11⟩ := HM.out.below HT.out.below
        obtain ⟨f, g0, g1, g2, g3, g4, g5, g6, g7, g8, g9, g10, gz⟩ := HT.out.r1.cells (k := k) (by omega)
        obtain ⟨f', t0, t1, t2, t3, t4, t5, t6, t7, t8, t9, t10, tz⟩ := HT.out.r2.cells (k := k) (by omega)
        obtain ⟨f2, u0, u1, u2, u3, u4, u5, u6, u7, u8, u9, u10, uz⟩ := HT.out.r3.cells (k := 0) (by omega)
        simp only [Nat.zero_mul, Nat.zero_add] at u0 u1 u2 u3 u4 u5 u6 u7 u8 u9 u10
        have hCl := HK.out.lt
        have hMl := HM.out.lt
        rw [HZ.out] at hCl hMl
        have n1 : C ≠ L1 := by omega
        have n2 : C ≠ L2 := by omega
        have n3 : C ≠ L3 := by omega
        have n4 : L1 ≠ L2 := by omega
        have n5 : L1 ≠ L3 := by omega
        have n6 : L2 ≠ L3 := by omega
        have n7 : M ≠ L1 := by omega
        have n8 : M ≠ L2 := by omega
        have n9 : M ≠ L3 := by omega
        obtain ⟨e1, e2, e3, e4⟩ := HT.out.fin HN'.out (x.alt p x.pl x.pl ⟨#[]⟩) (x.alt p x.pl x.pl x.f10)
        have HX0 : Hid (Fin5 w S BS L1 L2 L3 C a' ys x p (x.alt p x.pl x.pl ⟨#[]⟩) (x.alt p x.pl x.pl x.f10) (put11 (put11 (put11 wr L1 (k * 11) (x.alt p x.pl x.pl ⟨#[]⟩)) L2 (k * 11) (x.alt p x.pl x.pl x.f10)) L3 0 (x.alt p x.pl x.pl x.f10))) :=
          ⟨HF.out.trans (e1.mono HF.out.size), HY.out.below e1, HC.out.below e1, e2, e3, e4, HK.out.below e1⟩
        clear e1 e2 e3 e4 HT
        go_wp2_with fail
        refine (tx18_any _ _ _ _ _ _).mono ?_
        rintro e w9 ⟨rfl, hb9⟩
        have HX : Hid (Fin5 w S BS L1 L2 L3 C a' ys x p (x.alt p x.pl x.pl ⟨#[]⟩) (x.alt p x.pl x.pl x.f10) w9) := HX0.out.next (Below.refl _ _) hb9
        clear hb9 HX0 HF HY HC HK HM HZ d12 d23 hCl hMl n1 n2 n3 n4 n5 n6 n7 n8 n9 p0 p1 p2 p3 p4 p5 p6 p7 p8 p9 p10 p11 q0 q1 q2 q3 q4 q5 q6 q7 q8 q9 q10 q11 g0 g1 g2 g3 g4 g5 g6 g7 g8 g9 g10 gz t0 t1 t2 t3 t4 t5 t6 t7 t8 t9 t10 tz u0 u1 u2 u3 u4 u5 u6 u7 u8 u9 u10 uz
        obtain ⟨bf, hbf⟩ : ∃ bf, ys.any marked = bf := ⟨_, rfl⟩
        have HBF : Hid (ys.any marked = bf) := hbf
        clear hbf
        go_wp2_with fail
        refine (set19_list g s BS k ys w9 bf HX.out.base HN'.out hn2 HBF.out).mono ?_
        rintro e w10 ⟨rfl, hb10⟩
        replace HX : Hid (Fin5 w S BS L1 L2 L3 C a' ys x p (x.alt p x.pl x.pl ⟨#[]⟩) (x.alt p x.pl x.pl x.f10) w10) := HX.out.next (Below.refl _ _) hb10
        clear hb10
        go_wp2
        go_loop [19, 20] (fun cv i => InUp ys k cv i) (fun _ i => k - (intOf i).toNat)
        case atStart => exact ⟨0, 0, ⟨Nat.zero_le _, rfl, rfl, Nat.le_refl _, rfl⟩⟩
        case round =>
          obtain ⟨j, m, hj, rfl, rfl, hm, hcnt⟩ := hrel
          have HCN : Hid _ := hcnt
          clear hcnt
          by_cases hjk : j < k
          · obtain ⟨y, HI, hadr, hy, _⟩ := HX.out.src.at (k := j) (by rw [HN'.out]; exact hjk)
            subst hadr
            have c10 := hy.h10
            rw [Nat.zero_add] at c10
            have HCD : Hid _ := count_take HI.out
            clear hy
            by_cases hp : 0 < y.f10.size
            · go_wp2
              go_round
              case rel =>
                have hN : InUp ys k (.int .i64 ((m : Int) + 1)) (.int .i64 ((j : Int) + 1)) := ⟨j + 1, m + 1, ⟨by omega, by go_num, by go_num, by omega, by rw [HCD.out, if_pos hp, ← HCN.out]⟩⟩
                first | exact hN | exact ⟨_, _, hN, rfl, rfl⟩ | exact ⟨_, _, _, hN, rfl, rfl, rfl⟩
              case measure => simp [intOf]; omega
            · go_wp2
              go_round
              case rel =>
                have hN : InUp ys k (.int .i64 (m : Int)) (.int .i64 ((j : Int) + 1)) := ⟨j + 1, m, ⟨by omega, by go_num, rfl, by omega, by rw [HCD.out, if_neg hp, ← HCN.out]; rfl⟩⟩
                first | exact hN | exact ⟨_, _, hN, rfl, rfl⟩ | exact ⟨_, _, _, hN, rfl, rfl, rfl⟩
              case measure => simp [intOf]; omega
          · have hfin : (bf == decide (0 < m)) = true := by
              have h1 := HBF.out; have h2 := HCN.out
              rw [List.take_of_length_le (by rw [HN'.out]; omega)] at h2
              rw [← h1, count_any, ← h2]
              simp
            have hbb : (bf == bf) = true := by simp
            have v1 : (ys ++ [x.alt p x.pl x.pl ⟨#[]⟩]).any marked = bf := by rw [any_last, HBF.out, mk_none]; simp
            have v2 : (ys ++ [x.alt p x.pl x.pl x.f10]).any marked = true := by rw [any_last, hmr]; simp
            have v3 : (x.alt p x.pl x.pl x.f10 :: ys).any marked = true := by rw [any_first, hmr]; simp
            have V1 : Hid _ := v1
            have V2 : Hid _ := v2
            have V3 : Hid _ := v3
            have hl1 : ∀ z : Br, (ys ++ [z]).length = k + 1 := fun z => by rw [List.length_append, HN'.out]; rfl
            have hl2 : ∀ z : Br, (z :: ys).length = k + 1 := fun z => by rw [List.length_cons, HN'.out]
            have HL1 : Hid (∀ z : Br, (ys ++ [z]).length = k + 1) := hl1
            have HL2 : Hid (∀ z : Br, (z :: ys).length = k + 1) := hl2
            have hme := mk_none
            clear v1 v2 v3 hl1 hl2 hmr HBF HCN
            go_wp2_with fail
            refine (tx18_any _ _ _ _ _ _).mono ?_
            rintro e w11 ⟨rfl, hb⟩
            replace HX : Hid (Fin5 w S BS L1 L2 L3 C a' ys x p (x.alt p x.pl x.pl ⟨#[]⟩) (x.alt p x.pl x.pl x.f10) w11) := HX.out.next (Below.refl _ _) hb
            clear hb
            go_wp2_with fail
            refine (set19_list g s L1 (k + 1) _ w11 bf HX.out.l1 (HL1.out _) (by omega) V1.out).mono ?_
            rintro e w12 ⟨rfl, hb⟩
            replace HX : Hid (Fin5 w S BS L1 L2 L3 C a' ys x p (x.alt p x.pl x.pl ⟨#[]⟩) (x.alt p x.pl x.pl x.f10) w12) := HX.out.next (Below.refl _ _) hb
            clear hb
            go_wp2_with fail
            refine (tx18_any _ _ _ _ _ _).mono ?_
            rintro e w13 ⟨rfl, hb⟩
            replace HX : Hid (Fin5 w S BS L1 L2 L3 C a' ys x p (x.alt p x.pl x.pl ⟨#[]⟩) (x.alt p x.pl x.pl x.f10) w13) := HX.out.next (Below.refl _ _) hb
            clear hb
            go_wp2_with fail
            refine (set19_list g s L2 (k + 1) _ w13 true HX.out.l2 (HL1.out _) (by omega) V2.out).mono ?_
            rintro e w14 ⟨rfl, hb⟩
            replace HX : Hid (Fin5 w S BS L1 L2 L3 C a' ys x p (x.alt p x.pl x.pl ⟨#[]⟩) (x.alt p x.pl x.pl x.f10) w14) := HX.out.next (Below.refl _ _) hb
            clear hb
            go_wp2_with fail
            refine (tx18_any _ _ _ _ _ _).mono ?_
            rintro e w15 ⟨rfl, hb⟩
            replace HX : Hid (Fin5 w S BS L1 L2 L3 C a' ys x p (x.alt p x.pl x.pl ⟨#[]⟩) (x.alt p x.pl x.pl x.f10) w15) := HX.out.next (Below.refl _ _) hb
            clear hb
            go_wp2_with fail
            refine (set19_list g s L3 (k + 1) _ w15 true HX.out.l3 (HL2.out _) (by omega) V3.out).mono ?_
            rintro e w16 ⟨rfl, hb⟩
            replace HX : Hid (Fin5 w S BS L1 L2 L3 C a' ys x p (x.alt p x.pl x.pl ⟨#[]⟩) (x.alt p x.pl x.pl x.f10) w16) := HX.out.next (Below.refl _ _) hb
            clear hb
            obtain ⟨p0, p1, p2, p3, p4, p5, p6, p7, p8, p9, p10, p11⟩ := HX.out.box
            go_wp2_with fail
            refine (tx18_any _ _ _ _ _ _).mono ?_
            rintro e w17 ⟨rfl, hb⟩
            have HB1 : Hid (Box w17 w16.heap.size x p x.pl x.pl ⟨#[]⟩) := (Box.new w16 x p x.pl x.pl ⟨#[]⟩ 43).below hb
            replace HX : Hid (Fin5 w S BS L1 L2 L3 C a' ys x p (x.alt p x.pl x.pl ⟨#[]⟩) (x.alt p x.pl x.pl x.f10) w17) := HX.out.next ((Below.refl _ _).alloc (Nat.le_refl _) _) hb
            clear hb p0 p1 p2 p3 p4 p5 p6 p7 p8 p9 p10 p11
            go_wp2_with fail
            refine (set19_one g s w16.heap.size x p x.pl x.pl ⟨#[]⟩ w17 HB1.out).mono ?_
            rintro e w18 ⟨rfl, hb⟩
            replace HX : Hid (Fin5 w S BS L1 L2 L3 C a' ys x p (x.alt p x.pl x.pl ⟨#[]⟩) (x.alt p x.pl x.pl x.f10) w18) := HX.out.next (Below.refl _ _) hb
            clear hb HB1
            go_wp2
            go_ret
            exact ⟨rfl, HX.out.frame⟩
end Go.Proofs.Qxb6604750a
