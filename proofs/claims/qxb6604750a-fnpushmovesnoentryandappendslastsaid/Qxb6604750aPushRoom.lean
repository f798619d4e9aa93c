import Derived.Test.Qxb6604750aPush
namespace Go.Proofs.Qxb6604750a
open Go.RowKit
set_option linter.unusedSimpArgs false
set_option linter.unusedVariables false

set_option maxHeartbeats 1000000 in
theorem push_room (O g G l len cap k : Nat) (x : Addr) (v : Value) (w : World)
    (hO0 : w.cell? ⟨O, 0, none⟩ = some (.slice (some ⟨g, 0, none⟩) (l + 1) cap)) (hO1 : w.cell? ⟨O, 1, none⟩ = some (.int .i64 k)) (fO1 : w.frozen? ⟨O, 1, none⟩ = false)
    (hg : w.cell? ⟨g, l, none⟩ = some (.slice (some ⟨G, 0, none⟩) len 1024)) (fg : w.frozen? ⟨g, l, none⟩ = false)
    (hG : w.cell? ⟨G, len, none⟩ = some v) (fG : w.frozen? ⟨G, len, none⟩ = false)
    (n1 : O ≠ g) (n2 : O ≠ G) (n3 : g ≠ G) (b1 : O < w.heap.size) (b2 : g < w.heap.size) (b3 : G < w.heap.size)
    (hl : l < 100) (hlen : len < 1024) (hk : k < 65536) :
    Calls Try.prog 26 #[.pointer (some ⟨O, 0, none⟩), .pointer (some x)] w fun e w' => e = .returned (.tuple #[]) ∧
      w'.Alike ((((w.setCell ⟨G, len, none⟩ (.pointer (some x))).setCell ⟨g, l, none⟩ (.slice (some ⟨G, 0, none⟩) (len + 1) 1024)).setCell ⟨O, 1, none⟩ (.int .i64 ((k : Int) + 1))).alloc (.cells #[.pointer (some x)] 25)) := by
  have hne : ((len : Int) == 1024) = false := by simp; omega
  go_enter Try.func26, Try.ntmps26
  go_wp2
  go_region
  all_goals
    go_wp2
    go_end0
    exact ⟨rfl, rfl, rfl, rfl⟩
end Go.Proofs.Qxb6604750a
