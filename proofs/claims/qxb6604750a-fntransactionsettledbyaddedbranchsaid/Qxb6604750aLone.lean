import Derived.Test.Qxb6604750aBranchList
namespace Go.Proofs.Qxb6604750a
open Go.RowKit
set_option linter.unusedSimpArgs false
set_option linter.unusedVariables false

/-- The branch with another payload and another reason. -/
def Br.alt (x : Br) (pa : Option Addr) (pl pc : Nat) (r : ByteArray) : Br := { x with pa := pa, pl := pl, pc := pc, f10 := r }

/-- The reason is there. -/
def mk (r : ByteArray) : Bool := !r.toList.isEmpty
theorem marked_alt (x : Br) (pa : Option Addr) (pl pc : Nat) (r : ByteArray) : marked (x.alt pa pl pc r) = mk r := rfl

/-- A branch (x with this payload and this reason) lies in the first eleven cells of block b. -/
structure Box (w : World) (b : Nat) (x : Br) (pa : Option Addr) (pl pc : Nat) (r : ByteArray) : Prop where
  h0 : w.cell? ⟨b, 0, none⟩ = some (.string x.f0)
  h1 : w.cell? ⟨b, 1, none⟩ = some (.string x.f1)
  h2 : w.cell? ⟨b, 2, none⟩ = some (.string x.f2)
  h3 : w.cell? ⟨b, 3, none⟩ = some (.slice pa pl pc)
  h4 : w.cell? ⟨b, 4, none⟩ = some (.string x.f4)
  h5 : w.cell? ⟨b, 5, none⟩ = some (.int .i64 x.f5)
  h6 : w.cell? ⟨b, 6, none⟩ = some (.string x.f6)
  h7 : w.cell? ⟨b, 7, none⟩ = some (.bool x.f7)
  h8 : w.cell? ⟨b, 8, none⟩ = some (.bool x.f8)
  h9 : w.cell? ⟨b, 9, none⟩ = some (.int .i64 x.f9)
  h10 : w.cell? ⟨b, 10, none⟩ = some (.string r)
  lt : b < w.heap.size

theorem Box.same {w w' : World} {b : Nat} {x : Br} {pa : Option Addr} {pl pc : Nat} {r : ByteArray} (h : Box w b x pa pl pc r) (e : ∀ i, w'.cell? ⟨b, i, none⟩ = w.cell? ⟨b, i, none⟩) (hs : w.heap.size ≤ w'.heap.size) : Box w' b x pa pl pc r :=
  ⟨(e _).trans h.h0, (e _).trans h.h1, (e _).trans h.h2, (e _).trans h.h3, (e _).trans h.h4, (e _).trans h.h5, (e _).trans h.h6, (e _).trans h.h7, (e _).trans h.h8, (e _).trans h.h9, (e _).trans h.h10, Nat.lt_of_lt_of_le h.lt hs⟩

theorem Box.new (w : World) (x : Br) (pa : Option Addr) (pl pc : Nat) (r : ByteArray) (t : TypeId) : Box (w.alloc (.cells #[.string x.f0, .string x.f1, .string x.f2, .slice pa pl pc, .string x.f4, .int .i64 x.f5, .string x.f6, .bool x.f7, .bool x.f8, .int .i64 x.f9, .string r] t)) w.heap.size x pa pl pc r where
  h0 := by rw [World.cell?_alloc_at _ _ _ _ rfl]; rfl
  h1 := by rw [World.cell?_alloc_at _ _ _ _ rfl]; rfl
  h2 := by rw [World.cell?_alloc_at _ _ _ _ rfl]; rfl
  h3 := by rw [World.cell?_alloc_at _ _ _ _ rfl]; rfl
  h4 := by rw [World.cell?_alloc_at _ _ _ _ rfl]; rfl
  h5 := by rw [World.cell?_alloc_at _ _ _ _ rfl]; rfl
  h6 := by rw [World.cell?_alloc_at _ _ _ _ rfl]; rfl
  h7 := by rw [World.cell?_alloc_at _ _ _ _ rfl]; rfl
  h8 := by rw [World.cell?_alloc_at _ _ _ _ rfl]; rfl
  h9 := by rw [World.cell?_alloc_at _ _ _ _ rfl]; rfl
  h10 := by rw [World.cell?_alloc_at _ _ _ _ rfl]; rfl
  lt := by simp

theorem Box.past {w : World} {b : Nat} {x : Br} {pa : Option Addr} {pl pc : Nat} {r : ByteArray} (h : Box w b x pa pl pc r) (o : Obj) : Box (w.alloc o) b x pa pl pc r := h.same (fun i => World.cell?_alloc_past _ _ _ h.lt) (by simp)

theorem Box.below {w w' : World} {b : Nat} {x : Br} {pa : Option Addr} {pl pc : Nat} {r : ByteArray} (h : Box w b x pa pl pc r) (k : Below w.heap.size w w') : Box w' b x pa pl pc r := h.same (fun i => k.cell (p := ⟨b, i, none⟩) h.lt) k.size

theorem Box.setPay {w : World} {b : Nat} {x : Br} {pa : Option Addr} {pl pc : Nat} {r : ByteArray} (h : Box w b x pa pl pc r) (a : Option Addr) (n c : Nat) : Box (w.setCell ⟨b, 3, none⟩ (.slice a n c)) b x a n c r := by
  have oth : ∀ i v, i ≠ 3 → w.cell? ⟨b, i, none⟩ = some v → (w.setCell ⟨b, 3, none⟩ (.slice a n c)).cell? ⟨b, i, none⟩ = some v := fun i v hi hv => by
    rw [World.cell?_setCell_other _ _ _ _ (by simp [Ne.symm hi])]; exact hv
  exact ⟨oth 0 _ (by decide) h.h0, oth 1 _ (by decide) h.h1, oth 2 _ (by decide) h.h2, World.cell?_setCell_same _ _ _ h.h3, oth 4 _ (by decide) h.h4, oth 5 _ (by decide) h.h5, oth 6 _ (by decide) h.h6, oth 7 _ (by decide) h.h7, oth 8 _ (by decide) h.h8, oth 9 _ (by decide) h.h9, oth 10 _ (by decide) h.h10, by simpa using h.lt⟩

theorem Box.brs {w : World} {b : Nat} {x : Br} {pa : Option Addr} {pl pc : Nat} {r : ByteArray} (h : Box w b x pa pl pc r) : Brs w (some ⟨b, 0, none⟩) b 0 [x.alt pa pl pc r] where
  addr := fun _ => ⟨rfl, h.lt⟩
  cells := fun i y hy => by
    match i, hy with
    | 0, hy =>
      simp at hy; subst hy
      exact ⟨h.h0, h.h1, h.h2, h.h3, h.h4, h.h5, h.h6, h.h7, h.h8, h.h9, h.h10⟩

theorem Brs.nil (w : World) (a : Option Addr) (b o : Nat) : Brs w a b o [] where
  addr := fun h => absurd rfl h
  cells := fun i y hy => by simp at hy

theorem to17 (x : Br) (pa : Option Addr) (pl pc : Nat) (r : ByteArray) (w : World) : Calls Try.prog 17 #[.agg #[.string x.f0, .string x.f1, .string x.f2, .slice pa pl pc, .string x.f4, .int .i64 x.f5, .string x.f6, .bool x.f7, .bool x.f8, .int .i64 x.f9, .string r]] w fun e w' => e = .returned (.agg #[.string x.f0, .string x.f1, .string x.f2, .slice pa pl pc, .string x.f4, .int .i64 x.f5, .string x.f6, .bool x.f7, .bool x.f8, .int .i64 x.f9, .string r]) ∧ Below w.heap.size w w' := tobranch17_any (x.alt pa pl pc r) w

theorem set20 (x : Br) (pa : Option Addr) (pl pc : Nat) (r : ByteArray) (w : World) : Calls Try.prog 20 #[.agg #[.string x.f0, .string x.f1, .string x.f2, .slice pa pl pc, .string x.f4, .int .i64 x.f5, .string x.f6, .bool x.f7, .bool x.f8, .int .i64 x.f9, .string r]] w fun e w' => e = .returned (.bool (mk r)) ∧ Below w.heap.size w w' := settled20_any (x.alt pa pl pc r) w

/-- The lone branch's transaction. -/
theorem set19_one (g s : ByteArray) (b : Nat) (x : Br) (pa : Option Addr) (pl pc : Nat) (r : ByteArray) (w : World) (h : Box w b x pa pl pc r) :
    Calls Try.prog 19 #[.agg #[.string g, .string s, .int .i64 0, .int .u64 0, .int .i64 0, .pointer none, .int .u64 0, .int .i64 0, .pointer none, .slice (some ⟨b, 0, none⟩) 1 1]] w fun e w' => e = .returned (.bool (mk r)) ∧ Below w.heap.size w w' := by
  refine (settled19_any g s (some ⟨b, 0, none⟩) 1 1 b 0 [x.alt pa pl pc r] w rfl (by omega) h.brs).mono fun e w' ⟨he, hb⟩ => ⟨?_, hb⟩
  rw [he]; simp [marked_alt]

/-- The transaction of no branch. -/
theorem set19_none (g s : ByteArray) (a : Option Addr) (c : Nat) (w : World) :
    Calls Try.prog 19 #[.agg #[.string g, .string s, .int .i64 0, .int .u64 0, .int .i64 0, .pointer none, .int .u64 0, .int .i64 0, .pointer none, .slice a 0 c]] w fun e w' => e = .returned (.bool false) ∧ Below w.heap.size w w' :=
  settled19_any g s a 0 c 0 0 [] w rfl (by omega) (Brs.nil w a 0 0)

/-- What the law reads at its end: the argument's box, the three branches' boxes; and the frame. -/
structure Boxes (w0 : World) (B N3 N4 N5 : Nat) (x : Br) (pa : Option Addr) (pl pc : Nat) (r r' : ByteArray) (w : World) : Prop where
  frame : Below w0.heap.size w0 w
  b1 : Box w B x pa pl pc x.f10
  b3 : Box w N3 x pa pl pc r
  b4 : Box w N4 x pa pl pc r'
  b5 : Box w N5 x pa pl pc ⟨#[]⟩

theorem Boxes.next {w0 : World} {B N3 N4 N5 : Nat} {x : Br} {pa : Option Addr} {pl pc : Nat} {r r' : ByteArray} {w W w' : World} (h : Boxes w0 B N3 N4 N5 x pa pl pc r r' w) (h1 : Below w.heap.size w W) (h2 : Below W.heap.size W w') : Boxes w0 B N3 N4 N5 x pa pl pc r r' w' where
  frame := h.frame.trans ((h1.trans (h2.mono h1.size)).mono h.frame.size)
  b1 := (h.b1.below h1).below h2
  b3 := (h.b3.below h1).below h2
  b4 := (h.b4.below h1).below h2
  b5 := (h.b5.below h1).below h2
end Go.Proofs.Qxb6604750a
