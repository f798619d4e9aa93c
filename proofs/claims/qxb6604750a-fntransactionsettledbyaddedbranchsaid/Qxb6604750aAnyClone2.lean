import Derived.Test.Qxb6604750aAnyClone
import Derived.Test.Qxb6604750aLone
namespace Go.Proofs.Qxb6604750a
open Go.RowKit
set_option linter.unusedSimpArgs false
set_option linter.unusedVariables false

/-- Every branch's payload can be read. -/
def Pays (w : World) (xs : List Br) : Prop := ∀ x ∈ xs, ∃ pb po, Pay w x.pa x.pl pb po

/-- The clone under way: k branches stand, their reasons those of the first k. -/
def Cloning (B n : Nat) (xs : List Br) (k : Nat) (wr : World) : Prop := ∃ ys, ys.length = k ∧ ys.map Br.f10 = (xs.take k).map Br.f10 ∧ Copied B n 35 ys wr

theorem Cloning.step {B n k : Nat} {xs : List Br} {w : World} {x : Br} (h : Cloning B n xs k w) (hk : k < n) (hx : xs[k]? = some x) (a : Option Addr) (pl pc : Nat) : Cloning B n xs (k + 1) (put11 w B (k * 11) (x.alt a pl pc x.f10)) := by
  obtain ⟨ys, hl, hm, hc⟩ := h
  exact ⟨ys ++ [x.alt a pl pc x.f10], by simp [hl], by rw [take_snoc hx, List.map_append, List.map_append, hm]; rfl, hc.step hl hk _⟩

/-- What comes back: a slice of as many branches, in new memory, with the same reasons. -/
def ClonedTo (n : Nat) (xs : List Br) (w : World) (e : Ending) (w' : World) : Prop := ∃ a' ys, e = .returned (.slice a' n n) ∧ Below w.heap.size w w' ∧ ys.length = n ∧ ys.map Br.f10 = xs.map Br.f10 ∧ Brs w' a' w.heap.size 0 ys

set_option maxHeartbeats 2000000 in
theorem clone23_any (a : Option Addr) (n c b o : Nat) (xs : List Br) (w : World) (HN : Hid (xs.length = n)) (hn : n ≤ 1048576) (hnil : a = none → n = 0) (HX : Hid (Brs w a b o xs)) (HS : Hid (∀ y ∈ xs, Small y)) (HP : Hid (Pays w xs)) :
    Calls Try.prog 23 #[.slice a n c] w (ClonedTo n xs w) := by
  cases a with
  | none =>
    have h0 := hnil rfl
    subst h0
    obtain rfl : xs = [] := by have := HN.out; simpa using this
    have hnl := fun wx => Lib.run_eql_slice_nil (P := Try.prog) wx 56 35 none 0 c 0 0 Try.underlying56
    go_enter Try.func23, Try.ntmps23
    go_wp2
    go_ret
    exact ⟨_, [], rfl, Below.refl _ _, rfl, rfl, Brs.nil _ _ _ _⟩
  | some ad =>
    have hnl := fun wx => Lib.run_eql_slice_nil (P := Try.prog) wx 56 35 (some ad) n c 0 0 Try.underlying56
    obtain ⟨fr, hfr, hmk⟩ := make35 n hn
    have HR0 : Hid (Cloning w.heap.size n xs 0 (w.alloc (.cells fr 35))) := ⟨[], rfl, rfl, Copied.start w fr n 35 hfr⟩
    clear hfr hnil
    go_enter Try.func23, Try.ntmps23
    go_wp2
    go_loopw [4, 5] (fun i p wr => ∃ k : Nat, k ≤ n ∧ i = .int .i64 k ∧ Hid (Cloning w.heap.size n xs k wr) ∧ Hid (Below w.heap.size w wr)) (fun i _ _ => n - (intOf i).toNat)
    case atStart => exact ⟨0, Nat.zero_le _, rfl, HR0, (Below.refl _ _).alloc (Nat.le_refl _) _⟩
    case round =>
      obtain ⟨k, hk, rfl, HR, HB⟩ := hrel
      clear HR0
      by_cases hlt : k < n
      · obtain ⟨x, HI, hadr, hx, hbs⟩ := HX.out.at (k := k) (by rw [HN.out]; exact hlt)
        obtain rfl : ad = ⟨b, o, none⟩ := by simpa using hadr
        obtain ⟨c0, c1, c2, c3, c4, c5, c6, c7, c8, c9, c10⟩ := hx.same (w' := wr) fun i => HB.out.cell (p := ⟨b, i, none⟩) hbs
        obtain ⟨pb, po, hp⟩ := HP.out x (List.mem_of_getElem? HI.out)
        have HPx : Hid (Pay (wr.alloc (.cells #[.string x.f0, .string x.f1, .string x.f2, .slice x.pa x.pl x.pc, .string x.f4, .int .i64 x.f5, .string x.f6, .bool x.f7, .bool x.f8, .int .i64 x.f9, .string x.f10] 35)) x.pa x.pl pb po) := hp.below (HB.out.alloc HB.out.size _)
        have hpl := (HS.out x (List.mem_of_getElem? HI.out)).z3
        clear hx hadr hp
        go_wp2_with fail
        refine (clone16_any x.pa x.pl x.pc pb po _ HPx hpl).mono ?_
        rintro e w1 ⟨a', rfl, hb1⟩
        have hlr : w.heap.size < wr.heap.size := by obtain ⟨ys, _, _, hc⟩ := HR.out; exact hc.lt
        have HX1 : Hid (Box w1 wr.heap.size x x.pa x.pl x.pc x.f10) := (Box.new wr x x.pa x.pl x.pc x.f10 35).below hb1
        have hfz : w1.frozen? ⟨wr.heap.size, 3, none⟩ = false := by rw [hb1.frozen (p := ⟨wr.heap.size, 3, none⟩) (by simp)]; simp
        have HR1 : Hid (Cloning w.heap.size n xs k (w1.setCell ⟨wr.heap.size, 3, none⟩ (.slice a' x.pl x.pl))) := by
          obtain ⟨ys, h1, h2, h3⟩ := HR.out
          refine ⟨ys, h1, h2, h3.same ?_⟩
          rw [Below.heap_setCell _ _ _ _ (by show w.heap.size ≠ wr.heap.size; omega), hb1.block _ (by simp; omega), Below.heap_alloc _ _ _ hlr]
        have HR2 : Hid (Cloning w.heap.size n xs (k + 1) (put11 (w1.setCell ⟨wr.heap.size, 3, none⟩ (.slice a' x.pl x.pl)) w.heap.size (k * 11) (x.alt a' x.pl x.pl x.f10))) := HR1.out.step hlt HI.out a' x.pl x.pl
        have HB1 : Hid (Below w.heap.size w (put11 (w1.setCell ⟨wr.heap.size, 3, none⟩ (.slice a' x.pl x.pl)) w.heap.size (k * 11) (x.alt a' x.pl x.pl x.f10))) :=
          put11_below (((HB.out.alloc HB.out.size _).trans (hb1.mono (by have := HB.out.size; simp; omega))).setCell (by show w.heap.size ≤ wr.heap.size; omega) _) (Nat.le_refl _) _ _
        obtain ⟨f, g0, g1, g2, g3, g4, g5, g6, g7, g8, g9, g10, gz⟩ := (show ∃ ys, Copied w.heap.size n 35 ys w1 from (by
          obtain ⟨ys, h1, h2, h3⟩ := HR.out
          exact ⟨ys, h3.same (by rw [hb1.block _ (by simp; omega), Below.heap_alloc _ _ _ hlr])⟩)).elim fun ys h => h.cells hlt
        obtain ⟨q0, q1, q2, q3, q4, q5, q6, q7, q8, q9, q10, q11⟩ := HX1.out
        have hne : w.heap.size ≠ wr.heap.size := by omega
        clear hb1 c0 c1 c2 c3 c4 c5 c6 c7 c8 c9 c10 HR HR1 HX1 HPx
        go_wp2
        go_roundw
        case rel => exact ⟨k + 1, by omega, by go_num, HR2, HB1⟩
        case measure => simp [intOf]; omega
      · go_wp2
        go_ret
        obtain ⟨ys, h1, h2, h3⟩ := HR.out
        exact ⟨_, ys, rfl, HB.out, by omega, by rw [h2, List.take_of_length_le (by rw [HN.out]; omega)], h3.brs⟩
end Go.Proofs.Qxb6604750a
