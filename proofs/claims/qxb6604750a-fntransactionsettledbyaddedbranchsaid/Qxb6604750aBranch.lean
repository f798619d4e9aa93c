import Derived.Test.Qxb6604750aRows
import Derived.WalkKit
import Derived.WalkSpells
import Derived.WalkLawsBesides
import Derived.Deep.OwnRows
namespace Go.Proofs.Qxb6604750a
open Go.RowKit
set_option linter.unusedSimpArgs false
set_option linter.unusedVariables false

/-- A branch's eleven fields, in plain words. -/
structure Br where
  f0 : ByteArray
  f1 : ByteArray
  f2 : ByteArray
  pa : Option Addr
  pl : Nat
  pc : Nat
  f4 : ByteArray
  f5 : Int
  f6 : ByteArray
  f7 : Bool
  f8 : Bool
  f9 : Int
  f10 : ByteArray

/-- No text and no payload of it is longer than 1<<20. -/
structure Small (x : Br) : Prop where
  z0 : x.f0.size ≤ 1048576
  z1 : x.f1.size ≤ 1048576
  z2 : x.f2.size ≤ 1048576
  z3 : x.pl ≤ 1048576
  z4 : x.f4.size ≤ 1048576
  z6 : x.f6.size ≤ 1048576
  z10 : x.f10.size ≤ 1048576

/-- It bears a reason. -/
def marked (x : Br) : Bool := !x.f10.toList.isEmpty

/-- One bool came back, nothing that was there has turned, and of the bool this holds. -/
def GaveB (p : Bool → Prop) (w : World) (e : Ending) (w' : World) : Prop := ∃ r : Bool, e = .returned (.bool r) ∧ Below w.heap.size w w' ∧ p r
/-- One int came back, within bounds; nothing that was there has turned. -/
def GaveI (w : World) (e : Ending) (w' : World) : Prop := ∃ m : Int, e = .returned (.int .i64 m) ∧ Below w.heap.size w w' ∧ 0 ≤ m ∧ m ≤ 2097152

set_option maxHeartbeats 1000000 in
theorem bytes13_any (x : Br) (w : World) : Calls Try.prog 13 #[.agg #[.string x.f0, .string x.f1, .string x.f2, .slice x.pa x.pl x.pc, .string x.f4, .int .i64 x.f5, .string x.f6, .bool x.f7, .bool x.f8, .int .i64 x.f9, .string x.f10]] w (GaveB (fun r => r = true → Small x) w) := by
  have hb : ∀ o, Below w.heap.size w (w.alloc o) := fun o => (Below.refl _ _).alloc (Nat.le_refl _) o
  replace hb : Hid (∀ o, Below w.heap.size w (w.alloc o)) := hb
  go_enter Try.func13, Try.ntmps13
  go_wp2
  all_goals
    go_ret
    exact ⟨_, rfl, hb.out _, fun h => by first | exact ⟨by omega, by omega, by omega, by omega, by omega, by omega, by omega⟩ | cases h⟩

set_option maxHeartbeats 400000 in
theorem add14_any (a b : Int) (w : World) (h0 : 0 ≤ a) (h1 : a ≤ 2097152) (h2 : 0 ≤ b) (h3 : b ≤ 9223372036854775807) : Calls Try.prog 14 #[.int .i64 a, .int .i64 b] w fun e w' => ∃ m : Int, e = .returned (.int .i64 m) ∧ w' = w ∧ 0 ≤ m ∧ m ≤ 2097152 := by
  by_cases c1 : 1048576 < a
  · go_enter Try.func14, Try.ntmps14
    go_wp2
    go_ret
    exact ⟨_, rfl, rfl, by omega, by omega⟩
  by_cases c2 : 1048576 < b
  · go_enter Try.func14, Try.ntmps14
    go_wp2
    go_ret
    exact ⟨_, rfl, rfl, by omega, by omega⟩
  go_enter Try.func14, Try.ntmps14
  go_wp2
  go_ret
  exact ⟨_, rfl, rfl, by omega, by omega⟩

set_option maxHeartbeats 400000 in
theorem settled20_any (x : Br) (w : World) : Calls Try.prog 20 #[.agg #[.string x.f0, .string x.f1, .string x.f2, .slice x.pa x.pl x.pc, .string x.f4, .int .i64 x.f5, .string x.f6, .bool x.f7, .bool x.f8, .int .i64 x.f9, .string x.f10]] w fun e w' => e = .returned (.bool (marked x)) ∧ Below w.heap.size w w' := by
  go_enter Try.func20, Try.ntmps20
  go_wp2
  go_ret
  exact ⟨rfl, (Below.refl _ _).alloc (Nat.le_refl _) _⟩

set_option maxHeartbeats 400000 in
theorem tobranch17_any (x : Br) (w : World) : Calls Try.prog 17 #[.agg #[.string x.f0, .string x.f1, .string x.f2, .slice x.pa x.pl x.pc, .string x.f4, .int .i64 x.f5, .string x.f6, .bool x.f7, .bool x.f8, .int .i64 x.f9, .string x.f10]] w fun e w' => e = .returned (.agg #[.string x.f0, .string x.f1, .string x.f2, .slice x.pa x.pl x.pc, .string x.f4, .int .i64 x.f5, .string x.f6, .bool x.f7, .bool x.f8, .int .i64 x.f9, .string x.f10]) ∧ Below w.heap.size w w' := by
  go_enter Try.func17, Try.ntmps17
  go_wp2
  exact bodyPost_ret (v := .agg #[.string x.f0, .string x.f1, .string x.f2, .slice x.pa x.pl x.pc, .string x.f4, .int .i64 x.f5, .string x.f6, .bool x.f7, .bool x.f8, .int .i64 x.f9, .string x.f10]) (by simp [results, Try.results17, go_sem]) rfl ⟨rfl, ((Below.refl _ _).alloc (Nat.le_refl _) _).alloc (by simp) _⟩

set_option maxHeartbeats 400000 in
theorem tx18_any (g s : ByteArray) (a : Option Addr) (n c : Nat) (w : World) : Calls Try.prog 18 #[.string g, .string s, .slice a n c] w fun e w' => e = .returned (.agg #[.string g, .string s, .int .i64 0, .int .u64 0, .int .i64 0, .pointer none, .int .u64 0, .int .i64 0, .pointer none, .slice a n c]) ∧ Below w.heap.size w w' := by
  go_enter Try.func18, Try.ntmps18
  go_wp2
  exact bodyPost_ret (v := .agg #[.string g, .string s, .int .i64 0, .int .u64 0, .int .i64 0, .pointer none, .int .u64 0, .int .i64 0, .pointer none, .slice a n c]) (by simp [results, Try.results18, go_sem]) rfl ⟨rfl, (Below.refl _ _).alloc (Nat.le_refl _) _⟩

set_option maxHeartbeats 1000000 in
theorem size15_any (t : Int) (x : Br) (w : World) (h0 : 0 ≤ t) (h1 : t ≤ 2097152) (hx : Small x) :
    Calls Try.prog 15 #[.int .i64 t, .agg #[.string x.f0, .string x.f1, .string x.f2, .slice x.pa x.pl x.pc, .string x.f4, .int .i64 x.f5, .string x.f6, .bool x.f7, .bool x.f8, .int .i64 x.f9, .string x.f10]] w (GaveI w) := by
  have HB : Hid (∀ o, Below w.heap.size w (w.alloc o)) := fun o => (Below.refl _ _).alloc (Nat.le_refl _) o
  obtain ⟨z0, z1, z2, z3, z4, z6, z10⟩ := hx
  go_enter Try.func15, Try.ntmps15
  go_wp2_with (go_at_call 14; refine (add14_any _ _ _ (by omega) (by omega) (by omega) (by omega)).mono ?_; rintro e w' ⟨m, rfl, rfl, hm0, hm1⟩)
  go_ret
  exact ⟨_, rfl, HB.out _, by omega, by omega⟩

end Go.Proofs.Qxb6604750a
