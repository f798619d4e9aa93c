import Derived.Test.Qxb6604696aJoined
namespace Go.Proofs.Qxb6604696a
open Go.RowKit
set_option linter.unusedSimpArgs false
set_option linter.unusedVariables false

/-- The list under way: k texts stand in the row of block G, of capacity C; all below G is as it was in w2. -/
structure Adding (w2 : World) (G C k : Nat) (xs : List ByteArray) (wr : World) : Prop where
  own : wr.ownsRow G 9 1 (.slice (some ⟨G, 0, none⟩) k C) k (xs.map .string)
  below : Below G w2 wr
  size : G ≤ wr.heap.size

theorem Adding.step {w2 wr w1 : World} {G C k : Nat} {xs : List ByteArray} (h : Adding w2 G C k xs wr) {s : ByteArray} {o : Obj}
    (hown : w1.ownsRow G 9 1 (.slice (some ⟨G, 0, none⟩) (k + 1) C) (k + 1) (xs.map .string ++ [.string s])) (hg : (wr.alloc o).grownBy w1 (some G)) : Adding w2 G C (k + 1) (xs ++ [s]) w1 where
  own := by simpa using hown
  below := (h.below.alloc h.size o).grown hg (by have := h.size; simp; omega) (by intro k hk; simp at hk; omega)
  size := by have := hg.size; have := h.size; simp at *; omega

theorem Adding.lt {w2 wr : World} {G C k : Nat} {xs : List ByteArray} (h : Adding w2 G C k xs wr) : G < wr.heap.size := by
  rcases h.own.2 with ⟨h', _⟩ | ⟨g, cap, cur, h', _, hg, _⟩
  · simp at h'
  · simp only [Value.slice.injEq, Option.some.injEq, Addr.mk.injEq, and_true, true_and] at h'
    obtain ⟨rfl, rfl⟩ := h'
    by_cases e : G < wr.heap.size
    · exact e
    · rw [Array.getElem?_eq_none (by omega)] at hg; simp at hg

theorem Adding.texts {w2 wr : World} {G C k : Nat} {xs : List ByteArray} (h : Adding w2 G C k xs wr) (hk : xs.length = k) : Texts wr (some ⟨G, 0, none⟩) G 0 xs where
  addr := fun _ => ⟨rfl, h.lt⟩
  cells := fun j x hx => by
    have hj := (List.getElem?_eq_some_iff.1 hx).1
    rw [Nat.zero_add, h.own.cellAt j (by omega), List.getElem?_map, hx]; rfl

theorem text_one (s : ByteArray) : text [s] = s := by
  simp only [text, List.map_cons, List.map_nil, Lib.join_one]

theorem app_toList (a b : ByteArray) : (a ++ b).toList = a.toList ++ b.toList := by
  rw [Lib.toList_data, Lib.toList_data, Lib.toList_data]; simp

theorem nl_size (T : ByteArray) : (T ++ ⟨#[10]⟩ : ByteArray).size = T.size + 1 := by rw [ByteArray.size_append]; rfl

theorem text_app (xs ys : List ByteArray) (h : xs ≠ []) (h2 : ys ≠ []) : ((text (xs ++ ys)).toList == ((text xs ++ ⟨#[10]⟩) ++ text ys).toList) = true := by
  rw [app_toList, app_toList]
  simp only [Lib.toList_data, text_data, List.map_append]
  rw [join_app _ _ (by simpa using h) (by simpa using h2)]
  simp

set_option maxHeartbeats 2000000 in
theorem joined_any (a1 : Option Addr) (b1 o1 n1 c1 : Nat) (s1 : List ByteArray) (a2 : Option Addr) (b2 o2 n2 c2 : Nat) (s2 : List ByteArray) (w : World)
    (HN1 : Hid (s1.length = n1)) (hn1 : n1 ≤ maxLen) (ht1 : Texts w a1 b1 o1 s1) (HN2 : Hid (s2.length = n2)) (hn2 : n2 ≤ maxLen) (ht2 : Texts w a2 b2 o2 s2) :
    Calls Try.prog 5 #[.slice a1 n1 c1, .slice a2 n2 c2] w fun e w' => e = .returned (.bool true) ∧ Below w.heap.size w w' := by
  have HT1 : Hid (Texts w a1 b1 o1 s1) := ht1
  have HT2 : Hid (Texts w a2 b2 o2 s2) := ht2
  clear ht1 ht2
  have hn1' : n1 ≤ 9223372036854775807 := by unfold maxLen at hn1; exact hn1
  have hn2' : n2 ≤ 9223372036854775807 := by unfold maxLen at hn2; exact hn2
  obtain ⟨i0, hi, hz0, hz1, hz2⟩ := info_parts Try.info9
  go_enter Try.func5, Try.ntmps5
  go_wp2_with fail
  refine (bytes14_any a1 b1 o1 n1 c1 s1 a2 b2 o2 n2 c2 s2 w HN1 hn1 HT1.out HN2 hn2 HT2.out).mono ?_
  rintro e w' ⟨r, rfl, rfl, HR⟩
  replace HR : Hid _ := HR
  cases r with
  | false =>
    go_wp2
    go_ret
    exact ⟨rfl, Below.refl _ _⟩
  | true =>
  have hm1 : n1 ≤ 1048576 := (HR.out rfl).1
  have hm2 : n2 ≤ 1048576 := (HR.out rfl).2
  clear hn1 hn2 hn1' hn2' HR
  by_cases h16 : 65536 < n1
  · go_wp2_with fail
    go_ret
    exact ⟨rfl, Below.refl _ _⟩
  by_cases h17 : 65536 < n2
  · go_wp2_with fail
    go_ret
    exact ⟨rfl, Below.refl _ _⟩
  go_wp2_with fail
  refine (strbytes_any a1 b1 o1 n1 c1 s1 w' HN1 hm1 HT1.out).mono ?_
  rintro e w' ⟨m1, rfl, rfl, x1, x2, x3⟩
  replace x3 : Hid _ := x3
  go_wp2_with fail
  refine (strbytes_any a2 b2 o2 n2 c2 s2 w' HN2 hm2 HT2.out).mono ?_
  rintro e w' ⟨m2, rfl, rfl, y1, y2, y3⟩
  replace y3 : Hid _ := y3
  by_cases hbig : 1048576 < m1 + m2
  · go_wp2_with fail
    go_ret
    exact ⟨rfl, Below.refl _ _⟩
  have HL : Hid (lens s1 + lens s2 ≤ 1048576) := by have := x3.out (by omega); have := y3.out (by omega); rw [Hid]; omega
  clear x3 y3
  go_wp2_with fail
  refine (clone_any a1 b1 o1 n1 c1 s1 w' HN1 hm1 HT1.out).mono ?_
  rintro e w1 ⟨a1', rfl, ht1, hb1⟩
  have HT2' : Hid _ := HT2.out.below hb1
  replace ht1 : Hid _ := ht1
  replace hb1 : Hid _ := hb1
  clear HT1 HT2
  go_wp2_with fail
  refine (clone_any a2 b2 o2 n2 c2 s2 w1 HN2 hm2 HT2'.out).mono ?_
  rintro e w2 ⟨a2', rfl, ht2, hb2⟩
  clear HT2'
  replace ht1 : Hid (Texts w2 a1' w'.heap.size 0 s1) := ht1.out.below hb2
  replace hb1 : Hid (Below w'.heap.size w' w2) := hb1.out.trans (hb2.mono hb1.out.size)
  clear hb2
  replace ht2 : Hid _ := ht2
  go_wp2_with (at_make; refine wpList_make_own _ rfl _ _ 23 rfl w2.heap.size 9 i0 (.string ⟨#[]⟩) 1 Try.underlying23 hi hz0 hz1 .i64 .i64 _ (n1 + n2) rfl rfl (by omega) (by rw [hz2]; omega) (by unfold maxLen; omega) (Nat.le_refl _) ?_)
  intro w3 hown3 hg3
  have HA0 : Hid (Adding w2 w2.heap.size (n1 + n2) 0 [] w3) := ⟨hown3, (Below.refl _ _).grown hg3 (Nat.le_refl _) (by intro k hk; cases hk), hg3.size⟩
  clear hown3 hg3
  go_wp2
  go_loopw [5, 6] (fun v i wr => ∃ k : Nat, k ≤ n1 ∧ v = .slice (some ⟨w2.heap.size, 0, none⟩) k (n1 + n2) ∧ i = .int .i64 k ∧ Hid (Adding w2 w2.heap.size (n1 + n2) k (s1.take k) wr)) (fun _ i _ => n1 - (intOf i).toNat)
  case atStart => exact ⟨0, Nat.zero_le _, rfl, rfl, HA0⟩
  case round =>
    obtain ⟨k, hk, rfl, rfl, HA⟩ := hrel
    by_cases hlt : k < n1
    · obtain ⟨s, HS, hadr, hc, hbs⟩ := ht1.out.at (k := k) (by rw [HN1.out]; exact hlt)
      subst hadr
      rw [Nat.zero_add] at hc
      have hc' : wr.cell? ⟨w'.heap.size, k, none⟩ = some (.string s) := by rw [HA.out.below.cell (p := ⟨w'.heap.size, k, none⟩) hbs]; exact hc
      clear hc
      go_wp2_with (at_builtin; refine wpList_append_fits _ rfl (.tmp 45) (.tmp 50) 23 rfl w2.heap.size 9 i0 1 Try.underlying23 hi hz1 w2.heap.size k (n1 + n2) _ rfl (HA.out.own.alloc _) ⟨wr.heap.size, 0, none⟩ 1 1 [.string s] rfl rfl (cell_one_new _ _ _) ?qc2 ?qc3 ?qnext)
      case qc2 => intro u hu; simp at hu; subst hu; rfl
      case qc3 => omega
      case qnext =>
        intro w4 hown4 hg4
        have HB : Hid (Adding w2 w2.heap.size (n1 + n2) (k + 1) (s1.take (k + 1)) w4) := by rw [take_snoc HS.out]; exact HA.out.step (by simpa [List.map_take] using hown4) hg4
        clear hown4 hg4
        go_wp2
        go_roundw
        case rel => exact ⟨k + 1, by omega, rfl, by go_num, HB⟩
        case measure => simp [intOf]; omega
    · obtain rfl : k = n1 := by omega
      have HA2 : Hid (Adding w2 w2.heap.size (k + n2) k (s1 ++ s2.take 0) wr) := by
        have := HA.out; rw [List.take_of_length_le (by rw [HN1.out]; omega)] at this; simpa [Hid] using this
      clear HA HA0 hlt
      go_wp2
      go_loopw [5, 7] (fun v i wr => ∃ q : Nat, q ≤ n2 ∧ v = .slice (some ⟨w2.heap.size, 0, none⟩) (k + q) (k + n2) ∧ i = .int .i64 q ∧ Hid (Adding w2 w2.heap.size (k + n2) (k + q) (s1 ++ s2.take q) wr)) (fun _ i _ => n2 - (intOf i).toNat)
      case atStart => exact ⟨0, Nat.zero_le _, rfl, rfl, HA2⟩
      case round =>
        obtain ⟨q, hq, rfl, rfl, HA⟩ := hrel
        clear HA2
        by_cases hlt : q < n2
        · obtain ⟨s, HS, hadr, hc, hbs⟩ := ht2.out.at (k := q) (by rw [HN2.out]; exact hlt)
          subst hadr
          rw [Nat.zero_add] at hc
          have hc' : wr.cell? ⟨w1.heap.size, q, none⟩ = some (.string s) := by rw [HA.out.below.cell (p := ⟨w1.heap.size, q, none⟩) hbs]; exact hc
          clear hc
          go_wp2_with (at_builtin; refine wpList_append_fits _ rfl (.tmp 58) (.tmp 63) 23 rfl w2.heap.size 9 i0 1 Try.underlying23 hi hz1 w2.heap.size (k + q) (k + n2) _ rfl (HA.out.own.alloc _) ⟨wr.heap.size, 0, none⟩ 1 1 [.string s] rfl rfl (cell_one_new _ _ _) ?qd2 ?qd3 ?qdext)
          case qd2 => intro u hu; simp at hu; subst hu; rfl
          case qd3 => omega
          case qdext =>
            intro w4 hown4 hg4
            have HB : Hid (Adding w2 w2.heap.size (k + n2) (k + (q + 1)) (s1 ++ s2.take (q + 1)) w4) := by
              rw [take_snoc HS.out, ← List.append_assoc]; exact HA.out.step (by simpa [List.map_take] using hown4) hg4
            clear hown4 hg4
            go_wp2
            go_roundw
            case rel => exact ⟨q + 1, by omega, rfl, by go_num, HB⟩
            case measure => simp [intOf]; omega
        · obtain rfl : q = n2 := by omega
          have HA3 : Hid (Adding w2 w2.heap.size (k + q) (k + q) (s1 ++ s2) wr) := by
            have := HA.out; rw [List.take_of_length_le (by rw [HN2.out]; omega)] at this; exact this
          clear HA hlt
          have htab : Hid (Texts wr (some ⟨w2.heap.size, 0, none⟩) w2.heap.size 0 (s1 ++ s2)) := HA3.out.texts (by rw [List.length_append, HN1.out, HN2.out])
          replace ht1 : Hid (Texts wr a1' w'.heap.size 0 s1) := ht1.out.below HA3.out.below
          replace ht2 : Hid (Texts wr a2' w1.heap.size 0 s2) := ht2.out.below HA3.out.below
          replace hb1 : Hid (Below w'.heap.size w' wr) := hb1.out.trans (HA3.out.below.mono hb1.out.size)
          clear HA3
          go_wp2_with fail
          refine (faults_any a1' _ 0 _ _ s1 wr HN1 hm1 (by have := HL.out; omega) ht1.out).mono ?_
          rintro e w4 ⟨rfl, hb4⟩
          replace ht1 : Hid _ := ht1.out.below hb4
          replace ht2 : Hid _ := ht2.out.below hb4
          replace htab : Hid _ := htab.out.below hb4
          replace hb1 : Hid (Below w'.heap.size w' w4) := hb1.out.trans (hb4.mono hb1.out.size)
          clear hb4
          go_wp2_with fail
          refine (faults_any a2' _ 0 _ _ s2 w4 HN2 hm2 (by have := HL.out; omega) ht2.out).mono ?_
          rintro e w5 ⟨rfl, hb5⟩
          replace ht1 : Hid _ := ht1.out.below hb5
          replace ht2 : Hid _ := ht2.out.below hb5
          replace htab : Hid _ := htab.out.below hb5
          replace hb1 : Hid (Below w'.heap.size w' w5) := hb1.out.trans (hb5.mono hb1.out.size)
          clear hb5
          go_wp2_with fail
          refine (faults_any _ _ 0 (k + q) (k + q) (s1 ++ s2) w5 (by rw [Hid, List.length_append, HN1.out, HN2.out]) (by omega) (by have := HL.out; simp only [lens, List.map_append, List.sum_append] at this ⊢; exact this) htab.out).mono ?_
          rintro e w6 ⟨rfl, hb6⟩
          replace ht1 : Hid _ := ht1.out.below hb6
          replace ht2 : Hid _ := ht2.out.below hb6
          replace hb1 : Hid (Below w'.heap.size w' w6) := hb1.out.trans (hb6.mono hb1.out.size)
          clear hb6 htab
          obtain ⟨T1, hT1⟩ : ∃ T, T = text s1 := ⟨_, rfl⟩
          obtain ⟨T2, hT2⟩ : ∃ T, T = text s2 := ⟨_, rfl⟩
          obtain ⟨T3, hT3⟩ : ∃ T, T = text (s1 ++ s2) := ⟨_, rfl⟩
          rw [← hT1, ← hT2, ← hT3]
          have z1 : T1.size ≤ 4194304 := by rw [hT1, text_size]; have := join_le s1; have := HL.out; have := HN1.out; omega
          have z2 : T2.size ≤ 4194304 := by rw [hT2, text_size]; have := join_le s2; have := HL.out; have := HN2.out; omega
          have zs : (T1 ++ ⟨#[10]⟩ : ByteArray).size = T1.size + 1 := nl_size T1
          have E1 : Hid (k = 0 → (T3.toList == T2.toList) = true) := fun h => by
            have : s1 = [] := by have := HN1.out; rw [h] at this; simpa using this
            rw [hT3, hT2, this]; simp
          have E2 : Hid (q = 0 → (T3.toList == T1.toList) = true) := fun h => by
            have : s2 = [] := by have := HN2.out; rw [h] at this; simpa using this
            rw [hT3, hT1, this]; simp
          have E3 : Hid (k ≠ 0 → q ≠ 0 → (T3.toList == ((T1 ++ ⟨#[10]⟩) ++ T2).toList) = true) := fun h h2 => by
            rw [hT3, hT1, hT2]
            exact text_app s1 s2 (by intro e; subst e; exact h HN1.out.symm) (by intro e; subst e; exact h2 HN2.out.symm)
          have F1 : Hid (k = 1 → ∃ s, a1' = some ⟨w'.heap.size, 0, none⟩ ∧ w6.cell? ⟨w'.heap.size, 0, none⟩ = some (.string s) ∧ (T1.toList == s.toList) = true) := fun h => by
            obtain ⟨s, hs, ha, hc, _⟩ := ht1.out.at (k := 0) (by rw [HN1.out]; omega)
            have : s1 = [s] := by
              have hl := HN1.out; rw [h] at hl
              match s1, hl, hs.out with
              | [x], _, hx => simp at hx; rw [hx]
            exact ⟨s, ha, hc, by rw [hT1, this, text_one]; simp⟩
          have F2 : Hid (q = 1 → ∃ s, a2' = some ⟨w1.heap.size, 0, none⟩ ∧ w6.cell? ⟨w1.heap.size, 0, none⟩ = some (.string s) ∧ (T2.toList == s.toList) = true) := fun h => by
            obtain ⟨s, hs, ha, hc, _⟩ := ht2.out.at (k := 0) (by rw [HN2.out]; omega)
            have : s2 = [s] := by
              have hl := HN2.out; rw [h] at hl
              match s2, hl, hs.out with
              | [x], _, hx => simp at hx; rw [hx]
            exact ⟨s, ha, hc, by rw [hT2, this, text_one]; simp⟩
          clear hT1 hT2 hT3 ht1 ht2 HL
          by_cases hk1 : k = 1
          · obtain ⟨sa, rfl, ca, ea⟩ := F1.out hk1
            by_cases hq1 : q = 1
            · obtain ⟨sb, rfl, cb, eb⟩ := F2.out hq1
              have e3 := E3.out (by omega) (by omega)
              subst hk1; subst hq1
              clear E1 E2 E3 F1 F2
              go_wp2
              go_ret
              exact ⟨rfl, hb1.out⟩
            · have q1 : ((q : Int) == 1) = false := by simp; omega
              by_cases hq0 : q = 0
              · have e2 := E2.out hq0
                subst hk1; subst hq0
                clear E1 E2 E3 F1 F2
                go_wp2
                go_ret
                exact ⟨rfl, hb1.out⟩
              · have e3 := E3.out (by omega) hq0
                subst hk1
                have q0 : ((q : Int) == 0) = false := by simp; omega
                clear E1 E2 E3 F1 F2
                go_wp2
                go_ret
                exact ⟨rfl, hb1.out⟩
          · have k1 : ((k : Int) == 1) = false := by simp; omega
            by_cases hq1 : q = 1
            · obtain ⟨sb, rfl, cb, eb⟩ := F2.out hq1
              by_cases hk0 : k = 0
              · have e1 := E1.out hk0
                subst hk0; subst hq1
                clear E1 E2 E3 F1 F2
                go_wp2
                go_ret
                exact ⟨rfl, hb1.out⟩
              · have e3 := E3.out hk0 (by omega)
                subst hq1
                have k0 : ((k : Int) == 0) = false := by simp; omega
                clear E1 E2 E3 F1 F2
                go_wp2
                go_ret
                exact ⟨rfl, hb1.out⟩
            · have q1 : ((q : Int) == 1) = false := by simp; omega
              by_cases hk0 : k = 0
              · have e1 := E1.out hk0
                subst hk0
                clear E1 E2 E3 F1 F2
                go_wp2
                go_ret
                exact ⟨rfl, hb1.out⟩
              · have k0 : ((k : Int) == 0) = false := by simp; omega
                by_cases hq0 : q = 0
                · have e2 := E2.out hq0
                  subst hq0
                  clear E1 E2 E3 F1 F2
                  go_wp2
                  go_ret
                  exact ⟨rfl, hb1.out⟩
                · have e3 := E3.out hk0 hq0
                  have q0 : ((q : Int) == 0) = false := by simp; omega
                  clear E1 E2 E3 F1 F2
                  go_wp2
                  go_ret
                  exact ⟨rfl, hb1.out⟩
end Go.Proofs.Qxb6604696a
