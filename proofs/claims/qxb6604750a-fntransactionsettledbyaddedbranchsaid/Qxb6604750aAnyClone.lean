import Derived.Test.Qxb6604750aAnySizes
namespace Go.Proofs.Qxb6604750a
open Go.RowKit
set_option linter.unusedSimpArgs false
set_option linter.unusedVariables false

theorem make35 (n : Nat) (hn : n ≤ 1048576) : ∃ fr : Array Value, fr.size = n * 11 ∧ ∀ wx : World, (Instr.makeSlice 56 (.int .i64 (n : Int)) (.int .i64 (n : Int))).run Try.prog wx = .ok (.slice (some ⟨wx.heap.size, 0, none⟩) n n) (wx.alloc (.cells fr 35)) := by
  have h : (Try.prog.info? 35).map (fun i => (i.zero.isSome, i.size, i.bytes)) = some (true, 11, 144) := by kernel_rfl
  obtain ⟨i, hi, hz, hs, hb⟩ : ∃ i, Try.prog.info? 35 = some i ∧ i.zero.isSome = true ∧ i.size = 11 ∧ i.bytes = 144 := by
    cases hi : Try.prog.info? 35 with
    | none => rw [hi] at h; simp at h
    | some i => rw [hi] at h; simp at h; exact ⟨i, rfl, h.1, h.2.1, h.2.2⟩
  obtain ⟨z, hz⟩ := Option.isSome_iff_exists.1 hz
  refine ⟨madeCells z.cells (n * 11), by simp [madeCells], fun wx => ?_⟩
  have := run_make (P := Try.prog) wx 56 35 i z Try.underlying56 hi hz .i64 .i64 n n (by omega) (Int.le_refl _) (by rw [hb]; omega) (by omega)
  rw [this, hs]
  simp

theorem make43 (n : Nat) (hn : n ≤ 1048577) : ∃ fr : Array Value, fr.size = n * 11 ∧ ∀ wx : World, (Instr.makeSlice 51 (.int .i64 (n : Int)) (.int .i64 (n : Int))).run Try.prog wx = .ok (.slice (some ⟨wx.heap.size, 0, none⟩) n n) (wx.alloc (.cells fr 43)) := by
  have h : (Try.prog.info? 43).map (fun i => (i.zero.isSome, i.size, i.bytes)) = some (true, 11, 144) := by kernel_rfl
  obtain ⟨i, hi, hz, hs, hb⟩ : ∃ i, Try.prog.info? 43 = some i ∧ i.zero.isSome = true ∧ i.size = 11 ∧ i.bytes = 144 := by
    cases hi : Try.prog.info? 43 with
    | none => rw [hi] at h; simp at h
    | some i => rw [hi] at h; simp at h; exact ⟨i, rfl, h.1, h.2.1, h.2.2⟩
  obtain ⟨z, hz⟩ := Option.isSome_iff_exists.1 hz
  refine ⟨madeCells z.cells (n * 11), by simp [madeCells], fun wx => ?_⟩
  have := run_make (P := Try.prog) wx 51 43 i z Try.underlying51 hi hz .i64 .i64 n n (by omega) (Int.le_refl _) (by rw [hb]; omega) (by omega)
  rw [this, hs]
  simp

theorem row_new (w : World) (fr : Array Value) (t : TypeId) : ∃ f, (w.alloc (.cells fr t)).rowIs w.heap.size t fr.size f :=
  ⟨fun i => fr.getD i undef, World.rowIs_alloc w fr t _ fun i hi => by simp [Array.getD, hi]⟩

/-- A branch stored into eleven cells. -/
def put11 (w : World) (B o : Nat) (x : Br) : World := (((((((((((w.setCell ⟨B, o, none⟩ (.string x.f0)).setCell ⟨B, o + 1, none⟩ (.string x.f1)).setCell ⟨B, o + 2, none⟩ (.string x.f2)).setCell ⟨B, o + 3, none⟩ (.slice x.pa x.pl x.pc)).setCell ⟨B, o + 4, none⟩ (.string x.f4)).setCell ⟨B, o + 5, none⟩ (.int .i64 x.f5)).setCell ⟨B, o + 6, none⟩ (.string x.f6)).setCell ⟨B, o + 7, none⟩ (.bool x.f7)).setCell ⟨B, o + 8, none⟩ (.bool x.f8)).setCell ⟨B, o + 9, none⟩ (.int .i64 x.f9)).setCell ⟨B, o + 10, none⟩ (.string x.f10))

theorem put11_row {w : World} {B o N : Nat} {t : TypeId} {f : Nat → Value} {x : Br} (h : w.rowIs B t N f) : ∃ f', (put11 w B o x).rowIs B t N f' ∧ (o + 11 ≤ N → BrAt (put11 w B o x) B o x) := by
  have h' := (((((((((((h.set o (.string x.f0)).set (o + 1) (.string x.f1)).set (o + 2) (.string x.f2)).set (o + 3) (.slice x.pa x.pl x.pc)).set (o + 4) (.string x.f4)).set (o + 5) (.int .i64 x.f5)).set (o + 6) (.string x.f6)).set (o + 7) (.bool x.f7)).set (o + 8) (.bool x.f8)).set (o + 9) (.int .i64 x.f9)).set (o + 10) (.string x.f10))
  refine ⟨_, (h' : (put11 w B o x).rowIs B t N _), fun hN => ?_⟩
  have c := fun i hi => World.rowIs.cell (w := put11 w B o x) h' (i := i) hi
  refine ⟨?_, ?_, ?_, ?_, ?_, ?_, ?_, ?_, ?_, ?_, ?_⟩
  · rw [c o (by omega)]; simp
  · rw [c (o + 1) (by omega)]; simp
  · rw [c (o + 2) (by omega)]; simp
  · rw [c (o + 3) (by omega)]; simp
  · rw [c (o + 4) (by omega)]; simp
  · rw [c (o + 5) (by omega)]; simp
  · rw [c (o + 6) (by omega)]; simp
  · rw [c (o + 7) (by omega)]; simp
  · rw [c (o + 8) (by omega)]; simp
  · rw [c (o + 9) (by omega)]; simp
  · rw [c (o + 10) (by omega)]; simp

theorem put11_block (w : World) (B o : Nat) (x : Br) (b : Nat) (h : b ≠ B) : (put11 w B o x).heap[b]? = w.heap[b]? := by
  unfold put11
  simp only [Below.heap_setCell _ _ _ _ (show b ≠ (⟨B, _, none⟩ : Addr).block from h)]

theorem put11_size (w : World) (B o : Nat) (x : Br) : (put11 w B o x).heap.size = w.heap.size := by simp [put11]

theorem put11_below {a w : World} {M B : Nat} (h : Below M a w) (hB : M ≤ B) (o : Nat) (x : Br) : Below M a (put11 w B o x) :=
  (((((((((((h.setCell hB _).setCell hB _).setCell hB _).setCell hB _).setCell hB _).setCell hB _).setCell hB _).setCell hB _).setCell hB _).setCell hB _).setCell hB _)

theorem put11_other {w : World} {B o b' o' : Nat} {x y : Br} (h : BrAt w b' o' y) (hd : b' ≠ B ∨ o' + 11 ≤ o ∨ o + 11 ≤ o') : BrAt (put11 w B o x) b' o' y := by
  have oth : ∀ i v, o' ≤ i → i < o' + 11 → w.cell? ⟨b', i, none⟩ = some v → (put11 w B o x).cell? ⟨b', i, none⟩ = some v := fun i v h1 h2 hv => by
    have ne : ∀ j, o ≤ j → j < o + 11 → (⟨B, j, none⟩ : Addr) ≠ ⟨b', i, none⟩ := fun j h3 h4 e => by
      have e1 := congrArg Addr.block e
      have e2 := congrArg Addr.off e
      simp at e1 e2
      omega
    unfold put11
    rw [World.cell?_setCell_other _ _ _ _ (ne (o + 10) (by omega) (by omega)), World.cell?_setCell_other _ _ _ _ (ne (o + 9) (by omega) (by omega)), World.cell?_setCell_other _ _ _ _ (ne (o + 8) (by omega) (by omega)), World.cell?_setCell_other _ _ _ _ (ne (o + 7) (by omega) (by omega)), World.cell?_setCell_other _ _ _ _ (ne (o + 6) (by omega) (by omega)), World.cell?_setCell_other _ _ _ _ (ne (o + 5) (by omega) (by omega)), World.cell?_setCell_other _ _ _ _ (ne (o + 4) (by omega) (by omega)), World.cell?_setCell_other _ _ _ _ (ne (o + 3) (by omega) (by omega)), World.cell?_setCell_other _ _ _ _ (ne (o + 2) (by omega) (by omega)), World.cell?_setCell_other _ _ _ _ (ne (o + 1) (by omega) (by omega)), World.cell?_setCell_other _ _ _ _ (ne o (by omega) (by omega))]
    exact hv
  exact ⟨oth o' _ (by omega) (by omega) h.h0, oth (o' + 1) _ (by omega) (by omega) h.h1, oth (o' + 2) _ (by omega) (by omega) h.h2, oth (o' + 3) _ (by omega) (by omega) h.h3, oth (o' + 4) _ (by omega) (by omega) h.h4, oth (o' + 5) _ (by omega) (by omega) h.h5, oth (o' + 6) _ (by omega) (by omega) h.h6, oth (o' + 7) _ (by omega) (by omega) h.h7, oth (o' + 8) _ (by omega) (by omega) h.h8, oth (o' + 9) _ (by omega) (by omega) h.h9, oth (o' + 10) _ (by omega) (by omega) h.h10⟩

/-- Of a row of n branches at block B the first ones are these. -/
structure Copied (B n : Nat) (t : TypeId) (ys : List Br) (wr : World) : Prop where
  row : ∃ f, wr.rowIs B t (n * 11) f
  done : ∀ i y, ys[i]? = some y → BrAt wr B (i * 11) y

theorem Copied.start (w : World) (fr : Array Value) (n : Nat) (t : TypeId) (h : fr.size = n * 11) : Copied w.heap.size n t [] (w.alloc (.cells fr t)) where
  row := by rw [← h]; exact row_new w fr t
  done := fun i y hy => by simp at hy

theorem Copied.step {B n k : Nat} {t : TypeId} {ys : List Br} {w : World} (h : Copied B n t ys w) (hl : ys.length = k) (hk : k < n) (x : Br) : Copied B n t (ys ++ [x]) (put11 w B (k * 11) x) := by
  obtain ⟨f, hf⟩ := h.row
  obtain ⟨f', hf', hx⟩ := put11_row (o := k * 11) (x := x) hf
  refine ⟨⟨f', hf'⟩, fun i y hy => ?_⟩
  by_cases e : i = k
  · subst e
    rw [List.getElem?_append_right (by omega), hl] at hy
    simp at hy
    subst hy
    exact hx (by omega)
  · have hi : i < ys.length := by
      have := (List.getElem?_eq_some_iff.1 hy).1
      simp at this; omega
    rw [List.getElem?_append_left hi] at hy
    exact put11_other (h.done i y hy) (Or.inr (Or.inl (by omega)))

theorem Copied.lt {B n : Nat} {t : TypeId} {ys : List Br} {w : World} (h : Copied B n t ys w) : B < w.heap.size := by
  obtain ⟨f, hf⟩ := h.row
  exact hf.lt

theorem Copied.same {B n : Nat} {t : TypeId} {ys : List Br} {w w' : World} (h : Copied B n t ys w) (e : w'.heap[B]? = w.heap[B]?) : Copied B n t ys w' where
  row := by obtain ⟨f, hf⟩ := h.row; exact ⟨f, hf.of_block e⟩
  done := fun i y hy => (h.done i y hy).same fun j => World.cell?_of_block e

theorem Copied.brs {B n : Nat} {t : TypeId} {ys : List Br} {w : World} (h : Copied B n t ys w) : Brs w (some ⟨B, 0, none⟩) B 0 ys where
  addr := fun _ => ⟨rfl, h.lt⟩
  cells := fun i y hy => by rw [Nat.zero_add]; exact h.done i y hy

theorem take_snoc {α : Type} {ss : List α} {k : Nat} {s : α} (h : ss[k]? = some s) : ss.take (k + 1) = ss.take k ++ [s] := by
  obtain ⟨hk, rfl⟩ := List.getElem?_eq_some_iff.1 h
  rw [List.take_succ_eq_append_getElem hk]

/-- What is known of a row's cells at place k, for a store. -/
theorem Copied.cells {B n k : Nat} {t : TypeId} {ys : List Br} {w : World} (h : Copied B n t ys w) (hk : k < n) :
    ∃ f : Nat → Value, w.cell? ⟨B, k * 11, none⟩ = some (f 0) ∧ w.cell? ⟨B, k * 11 + 1, none⟩ = some (f 1) ∧ w.cell? ⟨B, k * 11 + 2, none⟩ = some (f 2) ∧ w.cell? ⟨B, k * 11 + 3, none⟩ = some (f 3) ∧ w.cell? ⟨B, k * 11 + 4, none⟩ = some (f 4) ∧ w.cell? ⟨B, k * 11 + 5, none⟩ = some (f 5) ∧
      w.cell? ⟨B, k * 11 + 6, none⟩ = some (f 6) ∧ w.cell? ⟨B, k * 11 + 7, none⟩ = some (f 7) ∧ w.cell? ⟨B, k * 11 + 8, none⟩ = some (f 8) ∧ w.cell? ⟨B, k * 11 + 9, none⟩ = some (f 9) ∧ w.cell? ⟨B, k * 11 + 10, none⟩ = some (f 10) ∧ ∀ i, w.frozen? ⟨B, i, none⟩ = false := by
  obtain ⟨f, hf⟩ := h.row
  exact ⟨fun j => f (k * 11 + j), hf.cell (by omega), hf.cell (by omega), hf.cell (by omega), hf.cell (by omega), hf.cell (by omega), hf.cell (by omega), hf.cell (by omega), hf.cell (by omega), hf.cell (by omega), hf.cell (by omega), hf.cell (by omega), hf.frozen⟩

set_option maxHeartbeats 1000000 in
theorem to24_any (a : Option Addr) (n c b o : Nat) (xs : List Br) (w : World) (HN : Hid (xs.length = n)) (hn : n ≤ 1048576) (HX : Hid (Brs w a b o xs)) :
    Calls Try.prog 24 #[.slice a n c] w fun e w' => e = .returned (.slice (some ⟨w.heap.size, 0, none⟩) n n) ∧ Below w.heap.size w w' ∧ Copied w.heap.size n 43 xs w' := by
  obtain ⟨fr, hfr, hmk⟩ := make43 n (by omega)
  have HR0 : Hid (Copied w.heap.size n 43 (xs.take 0) (w.alloc (.cells fr 43))) := Copied.start w fr n 43 hfr
  clear hfr
  go_enter Try.func24, Try.ntmps24
  go_wp2
  go_loopw [4] (fun i wr => ∃ k : Nat, k ≤ n ∧ i = .int .i64 k ∧ Hid (Copied w.heap.size n 43 (xs.take k) wr) ∧ Hid (Below w.heap.size w wr)) (fun i _ => n - (intOf i).toNat)
  case atStart => exact ⟨0, Nat.zero_le _, rfl, HR0, (Below.refl _ _).alloc (Nat.le_refl _) _⟩
  case round =>
    obtain ⟨k, hk, rfl, HR, HB⟩ := hrel
    clear HR0
    by_cases hlt : k < n
    · obtain ⟨x, HI, rfl, hx, hbs⟩ := HX.out.at (k := k) (by rw [HN.out]; exact hlt)
      obtain ⟨c0, c1, c2, c3, c4, c5, c6, c7, c8, c9, c10⟩ := hx.same (w' := wr) fun i => HB.out.cell (p := ⟨b, i, none⟩) hbs
      clear hx
      go_wp2_with fail
      refine (tobranch17_any x wr).mono ?_
      rintro e w1 ⟨rfl, hb1⟩
      have HR1 : Hid (Copied w.heap.size n 43 (xs.take k) w1) := HR.out.same (hb1.block _ HR.out.lt)
      have HB1 : Hid (Below w.heap.size w (put11 w1 w.heap.size (k * 11) x)) := put11_below (HB.out.trans (hb1.mono HB.out.size)) (Nat.le_refl _) _ _
      have HR2 : Hid (Copied w.heap.size n 43 (xs.take (k + 1)) (put11 w1 w.heap.size (k * 11) x)) := by
        rw [take_snoc HI.out]; exact HR1.out.step (by rw [List.length_take, HN.out]; omega) hlt x
      obtain ⟨f, g0, g1, g2, g3, g4, g5, g6, g7, g8, g9, g10, gz⟩ := HR1.out.cells hlt
      clear hb1 c0 c1 c2 c3 c4 c5 c6 c7 c8 c9 c10
      go_wp2
      go_roundw
      case rel => exact ⟨k + 1, by omega, by go_num, HR2, HB1⟩
      case measure => simp [intOf]; omega
    · go_wp2
      go_ret
      exact ⟨rfl, HB.out, by have := HR.out; rw [List.take_of_length_le (by rw [HN.out]; omega)] at this; exact this⟩
end Go.Proofs.Qxb6604750a
