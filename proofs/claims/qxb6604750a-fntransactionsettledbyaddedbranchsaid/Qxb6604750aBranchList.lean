import Derived.Test.Qxb6604750aBranch
namespace Go.Proofs.Qxb6604750a
open Go.RowKit
set_option linter.unusedSimpArgs false
set_option linter.unusedVariables false

theorem Try.info5 : (Try.prog.info? 5).map (fun i => (i.zero, i.size, i.bytes)) = some (some (.int .u8 0), 1, 1) := by kernel_rfl

/-- What is known of a payload: its address where it has a byte; that its cells hold bytes. -/
structure Pay (w : World) (a : Option Addr) (n b o : Nat) : Prop where
  nil : a = none → n = 0
  addr : 0 < n → a = some ⟨b, o, none⟩ ∧ b < w.heap.size
  cells : ∀ i, i < n → ∃ z, w.cell? ⟨b, o + i, none⟩ = some (.int .u8 z)

theorem Pay.below {w w' : World} {a : Option Addr} {n b o : Nat} (h : Pay w a n b o) (hb : Below w.heap.size w w') : Pay w' a n b o where
  nil := h.nil
  addr := fun h0 => ⟨(h.addr h0).1, Nat.lt_of_lt_of_le (h.addr h0).2 hb.size⟩
  cells := fun i hi => by
    obtain ⟨z, hz⟩ := h.cells i hi
    exact ⟨z, by rw [hb.cell (p := ⟨b, o + i, none⟩) (h.addr (by omega)).2]; exact hz⟩

/-- A copy of n bytes came back, in new memory. -/
def CopyOf (n : Nat) (w : World) (e : Ending) (w' : World) : Prop := ∃ a', e = .returned (.slice a' n n) ∧ Below w.heap.size w w'

set_option maxHeartbeats 400000 in
theorem clone16_any (a : Option Addr) (n c b o : Nat) (w : World) (HP : Hid (Pay w a n b o)) (hn : n ≤ 1048576) : Calls Try.prog 16 #[.slice a n c] w (CopyOf n w) := by
  cases a with
  | none =>
    have h0 := HP.out.nil rfl
    subst h0
    have hnil := fun wx => Lib.run_eql_slice_nil (P := Try.prog) wx 33 5 none 0 c 0 0 Try.underlying33
    go_enter Try.func16, Try.ntmps16
    go_wp2
    go_ret
    exact ⟨_, rfl, Below.refl _ _⟩
  | some ad =>
    have hmk := run_make_row' (P := Try.prog) 33 5 (.int .u8 0) 1 Try.underlying33 Try.info5 rfl .i64 .i64 n (by omega) (by omega)
    have hnil := fun wx => Lib.run_eql_slice_nil (P := Try.prog) wx 33 5 (some ad) n c 0 0 Try.underlying33
    go_enter Try.func16, Try.ntmps16
    go_wp2
    go_loopw [4] (fun i wr => ∃ k : Nat, k ≤ n ∧ i = .int .i64 k ∧ Hid (∃ f, wr.rowIs w.heap.size 5 n f) ∧ Hid (Below w.heap.size w wr)) (fun i _ => n - (intOf i).toNat)
    case atStart => exact ⟨0, Nat.zero_le _, rfl, ⟨_, World.rowIs_made w (.int .u8 0) n 5⟩, (Below.refl _ _).alloc (Nat.le_refl _) _⟩
    case round =>
      obtain ⟨k, hk, rfl, HR, HB⟩ := hrel
      by_cases hlt : k < n
      · obtain ⟨hadr, hbs⟩ := HP.out.addr (by omega)
        obtain rfl : ad = ⟨b, o, none⟩ := by simpa using hadr
        clear hadr
        obtain ⟨z, hz⟩ := HP.out.cells k hlt
        have hz' : wr.cell? ⟨b, o + k, none⟩ = some (.int .u8 z) := by rw [HB.out.cell (p := ⟨b, o + k, none⟩) hbs]; exact hz
        obtain ⟨f, hf⟩ := HR.out
        have hcell := hf.cell (i := k) hlt
        have hfr := hf.frozen k
        have HR2 : Hid (∃ f, (wr.setCell ⟨w.heap.size, k, none⟩ (.int .u8 z)).rowIs w.heap.size 5 n f) := ⟨_, hf.set k _⟩
        have HB2 : Hid (Below w.heap.size w (wr.setCell ⟨w.heap.size, k, none⟩ (.int .u8 z))) := HB.out.setCell (Nat.le_refl _) _
        clear hz hf
        go_wp2
        go_roundw
        case rel => exact ⟨k + 1, by omega, by go_num, HR2, HB2⟩
        case measure => simp [intOf]; omega
      · go_wp2
        go_ret
        exact ⟨_, rfl, HB.out⟩

/-- A branch lies in eleven cells from ⟨b, o⟩ on. -/
structure BrAt (w : World) (b o : Nat) (x : Br) : Prop where
  h0 : w.cell? ⟨b, o, none⟩ = some (.string x.f0)
  h1 : w.cell? ⟨b, o + 1, none⟩ = some (.string x.f1)
  h2 : w.cell? ⟨b, o + 2, none⟩ = some (.string x.f2)
  h3 : w.cell? ⟨b, o + 3, none⟩ = some (.slice x.pa x.pl x.pc)
  h4 : w.cell? ⟨b, o + 4, none⟩ = some (.string x.f4)
  h5 : w.cell? ⟨b, o + 5, none⟩ = some (.int .i64 x.f5)
  h6 : w.cell? ⟨b, o + 6, none⟩ = some (.string x.f6)
  h7 : w.cell? ⟨b, o + 7, none⟩ = some (.bool x.f7)
  h8 : w.cell? ⟨b, o + 8, none⟩ = some (.bool x.f8)
  h9 : w.cell? ⟨b, o + 9, none⟩ = some (.int .i64 x.f9)
  h10 : w.cell? ⟨b, o + 10, none⟩ = some (.string x.f10)

theorem BrAt.same {w w' : World} {b o : Nat} {x : Br} (h : BrAt w b o x) (e : ∀ i, w'.cell? ⟨b, i, none⟩ = w.cell? ⟨b, i, none⟩) : BrAt w' b o x :=
  ⟨(e _).trans h.h0, (e _).trans h.h1, (e _).trans h.h2, (e _).trans h.h3, (e _).trans h.h4, (e _).trans h.h5, (e _).trans h.h6, (e _).trans h.h7, (e _).trans h.h8, (e _).trans h.h9, (e _).trans h.h10⟩

/-- What is known of a slice of branches. -/
structure Brs (w : World) (a : Option Addr) (b o : Nat) (xs : List Br) : Prop where
  addr : xs ≠ [] → a = some ⟨b, o, none⟩ ∧ b < w.heap.size
  cells : ∀ i x, xs[i]? = some x → BrAt w b (o + i * 11) x

theorem Brs.at {w : World} {a : Option Addr} {b o : Nat} {xs : List Br} (h : Brs w a b o xs) {k : Nat} (hk : k < xs.length) :
    ∃ x, Hid (xs[k]? = some x) ∧ a = some ⟨b, o, none⟩ ∧ BrAt w b (o + k * 11) x ∧ b < w.heap.size :=
  ⟨xs[k], List.getElem?_eq_getElem hk, (h.addr (by intro e; subst e; simp at hk)).1, h.cells k _ (List.getElem?_eq_getElem hk), (h.addr (by intro e; subst e; simp at hk)).2⟩

theorem Brs.below {w w' : World} {a : Option Addr} {b o : Nat} {xs : List Br} (h : Brs w a b o xs) (hb : Below w.heap.size w w') : Brs w' a b o xs where
  addr := fun e => ⟨(h.addr e).1, Nat.lt_of_lt_of_le (h.addr e).2 hb.size⟩
  cells := fun i x hx => (h.cells i x hx).same fun j => hb.cell (p := ⟨b, j, none⟩) (h.addr (by intro e; subst e; simp at hx)).2

theorem any_take {xs : List Br} {k : Nat} {x : Br} (h : xs[k]? = some x) : (xs.take (k + 1)).any marked = ((xs.take k).any marked || marked x) := by
  obtain ⟨hk, rfl⟩ := List.getElem?_eq_some_iff.1 h
  rw [List.take_succ_eq_append_getElem hk, List.any_append, List.any_cons, List.any_nil, Bool.or_false]

theorem any_of {xs : List Br} {k : Nat} {x : Br} (h : xs[k]? = some x) (hm : marked x = true) : xs.any marked = true :=
  List.any_eq_true.2 ⟨x, List.mem_of_getElem? h, hm⟩

theorem ret_bool {a b : Bool} (h : a = b) : Ending.returned (.bool a) = .returned (.bool b) := by rw [h]

set_option maxHeartbeats 1000000 in
theorem settled19_any (g s : ByteArray) (a : Option Addr) (n c b o : Nat) (xs : List Br) (w : World) (HN : Hid (xs.length = n)) (hn : n ≤ 1048576) (HX : Hid (Brs w a b o xs)) :
    Calls Try.prog 19 #[.agg #[.string g, .string s, .int .i64 0, .int .u64 0, .int .i64 0, .pointer none, .int .u64 0, .int .i64 0, .pointer none, .slice a n c]] w fun e w' => e = .returned (.bool (xs.any marked)) ∧ Below w.heap.size w w' := by
  have HB0 : Hid (∀ o, Below w.heap.size w (w.alloc o)) := fun o => (Below.refl _ _).alloc (Nat.le_refl _) o
  go_enter Try.func19, Try.ntmps19
  go_wp2
  go_loopw [2, 4, 8] (fun r p j wr => ∃ k : Nat, k ≤ n ∧ j = .int .i64 k ∧ Hid ((xs.take k).any marked = false) ∧ Hid (Below w.heap.size w wr)) (fun _ _ j _ => n - (intOf j).toNat)
  case atStart => exact ⟨0, Nat.zero_le _, rfl, rfl, HB0.out _⟩
  case round =>
    obtain ⟨k, hk, rfl, HM, HB⟩ := hrel
    by_cases hlt : k < n
    · obtain ⟨x, HS, rfl, hx, hbs⟩ := HX.out.at (k := k) (by rw [HN.out]; exact hlt)
      obtain ⟨c0, c1, c2, c3, c4, c5, c6, c7, c8, c9, c10⟩ := hx.same (w' := wr) fun i => HB.out.cell (p := ⟨b, i, none⟩) hbs
      clear hx
      by_cases hm : marked x = true
      · go_wp2_with fail
        refine (settled20_any x _).mono ?_
        rintro e w1 ⟨rfl, hb1⟩
        have HB1 : Hid (Below w.heap.size w w1) := (HB.out.alloc HB.out.size _).trans (hb1.mono (by have := HB.out.size; simp; omega))
        clear hb1
        go_wp2
        go_ret
        exact ⟨ret_bool (any_of HS.out hm).symm, HB1.out⟩
      · have hm' : marked x = false := by simpa using hm
        clear hm
        go_wp2_with fail
        refine (settled20_any x _).mono ?_
        rintro e w1 ⟨rfl, hb1⟩
        have HB1 : Hid (Below w.heap.size w w1) := (HB.out.alloc HB.out.size _).trans (hb1.mono (by have := HB.out.size; simp; omega))
        have HM1 : Hid ((xs.take (k + 1)).any marked = false) := by rw [Hid, any_take HS.out, HM.out, hm']; rfl
        clear hb1
        go_wp2
        go_roundw
        case rel => exact ⟨k + 1, by omega, by go_num, HM1, HB1⟩
        case measure => simp [intOf]; omega
    · go_wp2
      go_ret
      exact ⟨ret_bool (by have := HM.out; rw [List.take_of_length_le (by rw [HN.out]; omega)] at this; rw [this]), HB.out⟩
end Go.Proofs.Qxb6604750a
