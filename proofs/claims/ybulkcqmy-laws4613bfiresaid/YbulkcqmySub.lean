import Derived.Test.YbulkcqmyTime
import Derived.Deep.RegionHeld3
import Derived.Deep.DrawnRows
namespace Go.Proofs.Ybulkcqmy
set_option linter.unusedVariables false
set_option linter.unusedSimpArgs false
open Go.RowKit

/-- Below N the world w' is as W was; what a region that draws holds on to -/
theorem hold_start {N : Nat} {W : World} (h : N ≤ W.heap.size) : Below N W W.drew ∧ N ≤ W.drew.heap.size ∧ ∀ b o, b < N → W.drew.cell? ⟨b, o, none⟩ = W.cell? ⟨b, o, none⟩ :=
  ⟨(Below.refl _ _).drew, h, fun _ _ _ => rfl⟩
theorem hold_keep {N N' : Nat} {W w1 w2 : World} (h : Below N W w1 ∧ N ≤ w1.heap.size ∧ ∀ b o, b < N → w1.cell? ⟨b, o, none⟩ = W.cell? ⟨b, o, none⟩) (hb : Below N' w1 w2) (hN : N ≤ N') :
    Below N W w2 ∧ N ≤ w2.heap.size ∧ ∀ b o, b < N → w2.cell? ⟨b, o, none⟩ = W.cell? ⟨b, o, none⟩ :=
  ⟨h.1.trans (hb.mono hN), Nat.le_trans h.2.1 hb.size, fun b o hb' => (hb.cell (p := ⟨b, o, none⟩) (Nat.lt_of_lt_of_le hb' hN)).trans (h.2.2 b o hb')⟩
set_option maxHeartbeats 1000000 in
theorem sub_xy (x y x' y' : Int) (h0 : 0 ≤ x) (h1 : x < 1000000000) (k0 : 0 ≤ x') (k1 : x' < 1000000000) (hy0 : -4 ≤ y) (hy1 : y ≤ 4) (hz0 : -4 ≤ y') (hz1 : y' ≤ 4) (w : World) :
    Calls Yba.prog 12 #[.agg #[.int .u64 x, .int .i64 y, .pointer none], .agg #[.int .u64 x', .int .i64 y', .pointer none]] w fun e w' => e = .returned (.int .i64 ((y - y') * 1000000000 + (x - x'))) ∧ Below w.heap.size w w' := by
  have h2 := and_le x x' h0 h1 k0 k1
  have m1 := and_mono x h0 h1
  have m2 := and_mono x' k0 k1
  have n1 := and_nsec x h0 h1
  have n2 := and_nsec x' k0 k1
  go_enter Yba.func12, Yba.ntmps12
  go_wp2
  go_region_held3 (fun w' => Below (w.heap.size + 2) ((w.alloc (Obj.cells #[Value.int IntKind.u64 x, Value.int IntKind.i64 y, Value.pointer none] 26)).alloc (Obj.cells #[Value.int IntKind.u64 x', Value.int IntKind.i64 y', Value.pointer none] 26)) w' ∧ w.heap.size + 2 ≤ w'.heap.size ∧ ∀ b o, b < w.heap.size + 2 → w'.cell? ⟨b, o, none⟩ = ((w.alloc (Obj.cells #[Value.int IntKind.u64 x, Value.int IntKind.i64 y, Value.pointer none] 26)).alloc (Obj.cells #[Value.int IntKind.u64 x', Value.int IntKind.i64 y', Value.pointer none] 26)).cell? ⟨b, o, none⟩)
    (first | exact hold_start (by simp) | exact hold_keep (by assumption) g4 (by omega))
    (first | (go_at_call 4; refine (add_xy _ _ _ k0 k1 (by omega) (by omega) (by omega) (by omega) _).mono ?_; rintro e w' ⟨x1, y1, rfl, g1, g2, g3, g4⟩) | (go_at_call 18; refine (equal_xy x1 y1 x y (by assumption) (by assumption) h0 h1 _).mono ?_; rintro e w' ⟨rfl, g4⟩))
  rename_i hH
  have e1 : (y1 == y && x1 == x) = true := by simp; omega
  rw [e1]
  have hB := ((((Below.refl w.heap.size w).alloc (Nat.le_refl _) _).alloc (by simp) _).trans (hH.1.mono (by omega)))
  clear hH g4 g3
  go_wp2
  go_ret
  exact ⟨rfl, hB⟩

theorem sub_any (a b : Int) (ha0 : -3000000000 ≤ a) (ha1 : a ≤ 3000000000) (hb0 : -3000000000 ≤ b) (hb1 : b ≤ 3000000000) (w : World) :
    Calls Yba.prog 12 #[tm a, tm b] w fun e w' => e = .returned (.int .i64 (a - b)) ∧ Below w.heap.size w w' := by
  refine (sub_xy (a % 1000000000) (a / 1000000000) (b % 1000000000) (b / 1000000000) (by omega) (by omega) (by omega) (by omega) (by omega) (by omega) (by omega) (by omega) w).mono ?_
  rintro e w' ⟨rfl, h⟩
  refine ⟨?_, h⟩
  have e1 : (a / 1000000000 - b / 1000000000) * 1000000000 + (a % 1000000000 - b % 1000000000) = a - b := by omega
  rw [e1]
end Go.Proofs.Ybulkcqmy
