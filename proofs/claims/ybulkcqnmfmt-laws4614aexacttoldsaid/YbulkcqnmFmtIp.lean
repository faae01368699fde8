import Derived.Test.YbulkcqnmFmtPut
import Derived.LaidEqlPtr
namespace Go.Proofs.YbulkcqnmFmt
set_option linter.unusedVariables false
set_option linter.unusedSimpArgs false
open Go.RowKit

theorem or_add (i : Nat) (x y : Int) (h0 : 0 ≤ x) (h1 : x < 18446744073709551616) (hx : x.toNat % 2 ^ i = 0) (k0 : 0 ≤ y) (k1 : y < 18446744073709551616) (hy : y.toNat < 2 ^ i) : bits .or .u64 x y = x + y := by
  rw [u64_or x y h0 h1 k0 k1, nat_join i _ _ hx hy]
  omega

theorem old_alloc {w : World} {a : Addr} {v : Value} (h : w.cell? a = some v) (o : Obj) : (w.alloc o).cell? a = some v := by
  rw [World.cell?_alloc_lt _ _ _ (World.block_lt_of_cell? w _ h)]; exact h
theorem old_alloc2 {w : World} {a : Addr} {v : Value} (h : w.cell? a = some v) (o o' : Obj) : ((w.alloc o).alloc o').cell? a = some v := old_alloc (old_alloc h o) o'

theorem ors (b0 b1 b2 b3 : Int) (h0 : 0 ≤ b0 ∧ b0 < 256) (h1 : 0 ≤ b1 ∧ b1 < 256) (h2 : 0 ≤ b2 ∧ b2 < 256) (h3 : 0 ≤ b3 ∧ b3 < 256) :
    bits BinOp.or IntKind.u64 (bits BinOp.or IntKind.u64 (bits BinOp.or IntKind.u64 (bits BinOp.or IntKind.u64 281470681743360 (b0 * 16777216)) (b1 * 65536)) (b2 * 256)) b3 = 281470681743360 + b0 * 16777216 + b1 * 65536 + b2 * 256 + b3 := by
  rw [or_add 32 281470681743360 (b0 * 16777216) (by omega) (by omega) (by decide) (by omega) (by omega) (by omega)]
  rw [or_add 24 (281470681743360 + b0 * 16777216) (b1 * 65536) (by omega) (by omega) (by omega) (by omega) (by omega) (by omega)]
  rw [or_add 16 (281470681743360 + b0 * 16777216 + b1 * 65536) (b2 * 256) (by omega) (by omega) (by omega) (by omega) (by omega) (by omega)]
  rw [or_add 8 (281470681743360 + b0 * 16777216 + b1 * 65536 + b2 * 256) b3 (by omega) (by omega) (by omega) (by omega) (by omega) (by omega)]

/-- The low word of an IPv4 address. -/
def lo4 (b0 b1 b2 b3 : Int) : Int := 281470681743360 + b0 * 16777216 + b1 * 65536 + b2 * 256 + b3

set_option maxHeartbeats 400000 in
theorem from4_any (b0 b1 b2 b3 : Int) (h0 : 0 ≤ b0 ∧ b0 < 256) (h1 : 0 ≤ b1 ∧ b1 < 256) (h2 : 0 ≤ b2 ∧ b2 < 256) (h3 : 0 ≤ b3 ∧ b3 < 256) (z : Addr) (w : World) (hz : w.cell? ⟨1, 0, none⟩ = some (.pointer (some z))) :
    Calls Ybaf.prog 5 #[.agg #[.int .u8 b0, .int .u8 b1, .int .u8 b2, .int .u8 b3]] w fun r w' => r = .returned (.agg #[.int .u64 0, .int .u64 (lo4 b0 b1 b2 b3), .pointer (some z)]) ∧ Kept [] w w' := by
  have hz2 := old_alloc2 hz
  have ho := ors b0 b1 b2 b3 h0 h1 h2 h3
  go_enter Ybaf.func5, Ybaf.ntmps5
  go_wp2
  refine bodyPost_ret (v := .agg #[.int .u64 0, .int .u64 (lo4 b0 b1 b2 b3), .pointer (some z)]) (by simp [results, Ybaf.results5, go_sem, lo4]) rfl ⟨rfl, ?_⟩
  exact (Kept.alloc _ _ _).trans (Kept.alloc _ _ _)

set_option maxHeartbeats 400000 in
theorem portFrom_any (x : Int) (z : Addr) (p : Int) (w : World) :
    Calls Ybaf.prog 4 #[.agg #[.int .u64 0, .int .u64 x, .pointer (some z)], .int .u16 p] w fun r w' => r = .returned (.agg #[.int .u64 0, .int .u64 x, .pointer (some z), .int .u16 p]) ∧ Kept [] w w' := by
  go_enter Ybaf.func4, Ybaf.ntmps4
  go_wp2
  refine bodyPost_ret (v := .agg #[.int .u64 0, .int .u64 x, .pointer (some z), .int .u16 p]) (by simp [results, Ybaf.results4, go_sem]) rfl ⟨rfl, ?_⟩
  exact (Kept.alloc _ _ _).trans (Kept.alloc _ _ _)

set_option maxHeartbeats 400000 in
theorem addr_any (x : Int) (z : Addr) (p : Int) (w : World) :
    Calls Ybaf.prog 14 #[.agg #[.int .u64 0, .int .u64 x, .pointer (some z), .int .u16 p]] w fun r w' => r = .returned (.agg #[.int .u64 0, .int .u64 x, .pointer (some z)]) ∧ Kept [] w w' := by
  go_enter Ybaf.func14, Ybaf.ntmps14
  go_wp2
  refine bodyPost_ret (v := .agg #[.int .u64 0, .int .u64 x, .pointer (some z)]) (by simp [results, Ybaf.results14, go_sem]) rfl ⟨rfl, ?_⟩
  exact (Kept.alloc _ _ _).trans (Kept.alloc _ _ _)

set_option maxHeartbeats 400000 in
theorem port_any (x : Int) (z : Addr) (p : Int) (w : World) :
    Calls Ybaf.prog 17 #[.agg #[.int .u64 0, .int .u64 x, .pointer (some z), .int .u16 p]] w fun r w' => r = .returned (.int .u16 p) ∧ Kept [] w w' := by
  go_enter Ybaf.func17, Ybaf.ntmps17
  go_wp2
  go_ret
  exact ⟨rfl, Kept.alloc _ _ _⟩

set_option maxHeartbeats 400000 in
theorem put32_any (b o c : Nat) (hc : 4 ≤ c) (x : Int) (h0 : 0 ≤ x) (h1 : x < 4294967296) (y0 y1 y2 y3 : Value) (w : World) (q0 : w.cell? ⟨b, o, none⟩ = some y0) (q1 : w.cell? ⟨b, o + 1, none⟩ = some y1) (q2 : w.cell? ⟨b, o + 2, none⟩ = some y2) (q3 : w.cell? ⟨b, o + 3, none⟩ = some y3)
    (f0 : w.frozen? ⟨b, o, none⟩ = false) (f1 : w.frozen? ⟨b, o + 1, none⟩ = false) (f2 : w.frozen? ⟨b, o + 2, none⟩ = false) (f3 : w.frozen? ⟨b, o + 3, none⟩ = false) :
    Calls Ybaf.prog 20 #[.slice (some ⟨b, o, none⟩) 4 c, .int .u32 x] w fun r w' => r = .returned (.tuple #[]) ∧
      w' = (((w.setCell ⟨b, o, none⟩ (.int .u8 (x / 16777216))).setCell ⟨b, o + 1, none⟩ (.int .u8 (x / 65536 % 256))).setCell ⟨b, o + 2, none⟩ (.int .u8 (x / 256 % 256))).setCell ⟨b, o + 3, none⟩ (.int .u8 (x % 256)) := by
  go_enter Ybaf.func20, Ybaf.ntmps20
  go_wp2
  go_end0
  exact ⟨rfl, rfl⟩
end Go.Proofs.YbulkcqnmFmt
