import Derived.Test.YbulkcqsiFmtErr
import Derived.LoopN
namespace Go.Proofs.YbulkcqsiFmt
set_option linter.unusedVariables false
set_option linter.unusedSimpArgs false
open Go.RowKit Go.Extern.Stop Go.Stop Go.Extern

def StrAt (g i : Nat) (l : List Int) (w : World) : Prop := ∀ m, m < l.length → w.cell? ⟨g, i + m, none⟩ = some (.int .u8 (l.getD m 0))

set_option maxHeartbeats 2000000 in
set_option maxRecDepth 20000 in
theorem str0 (F : Interp) (g i n cap : Nat) (w : World) (hF : F.answers w.tape) (hs : StrAt g i [34, 34] w) (hn : i + 2 ≤ n) (hb : n ≤ 1000000) (hc : n ≤ cap) :
    Calls Ybaf.prog 9 #[.slice (some ⟨g, 0, none⟩) n cap, .int .i64 i] w fun r w' => r = .returned (.tuple #[.int .i64 ((i + 2 : Nat) : Int), .nilIface]) ∧ Kept [] w w' := by
  have K0 : Kept [] w w := Kept.refl _ _
  have c0 : w.cell? ⟨g, i + 0, none⟩ = some (.int .u8 34) := hs 0 (by decide)
  have c1 : w.cell? ⟨g, i + 1, none⟩ = some (.int .u8 34) := hs 1 (by decide)
  clear hs
  go_enter Ybaf.func9, Ybaf.ntmps9
  go_wp2_with fail
  refine wp_loop_rounds 1 ?_
  rw [rounds_succ]
  go_wp2_with fail
  go_ret2
  exact ⟨by simp; omega, K0⟩

set_option maxHeartbeats 2000000 in
set_option maxRecDepth 20000 in
theorem str1 (F : Interp) (g i n cap : Nat) (w : World) (hF : F.answers w.tape) (hs : StrAt g i [34, 97, 34] w) (hn : i + 3 ≤ n) (hb : n ≤ 1000000) (hc : n ≤ cap) :
    Calls Ybaf.prog 9 #[.slice (some ⟨g, 0, none⟩) n cap, .int .i64 i] w fun r w' => r = .returned (.tuple #[.int .i64 ((i + 3 : Nat) : Int), .nilIface]) ∧ Kept [] w w' := by
  have K0 : Kept [] w w := Kept.refl _ _
  have c0 : w.cell? ⟨g, i + 0, none⟩ = some (.int .u8 34) := hs 0 (by decide)
  have c1 : w.cell? ⟨g, i + 1, none⟩ = some (.int .u8 97) := hs 1 (by decide)
  have c2 : w.cell? ⟨g, i + 2, none⟩ = some (.int .u8 34) := hs 2 (by decide)
  clear hs
  go_enter Ybaf.func9, Ybaf.ntmps9
  go_wp2_with fail
  refine wp_loop_rounds 2 ?_
  rw [rounds_succ]
  go_wp2_with fail
  rw [rounds_succ]
  go_wp2_with fail
  go_ret2
  exact ⟨by simp; omega, K0⟩

set_option maxHeartbeats 2000000 in
set_option maxRecDepth 20000 in
theorem str2 (F : Interp) (g i n cap : Nat) (w : World) (hF : F.answers w.tape) (hs : StrAt g i [34, 97, 92, 34, 98, 125, 34] w) (hn : i + 7 ≤ n) (hb : n ≤ 1000000) (hc : n ≤ cap) :
    Calls Ybaf.prog 9 #[.slice (some ⟨g, 0, none⟩) n cap, .int .i64 i] w fun r w' => r = .returned (.tuple #[.int .i64 ((i + 7 : Nat) : Int), .nilIface]) ∧ Kept [] w w' := by
  have K0 : Kept [] w w := Kept.refl _ _
  have c0 : w.cell? ⟨g, i + 0, none⟩ = some (.int .u8 34) := hs 0 (by decide)
  have c1 : w.cell? ⟨g, i + 1, none⟩ = some (.int .u8 97) := hs 1 (by decide)
  have c2 : w.cell? ⟨g, i + 2, none⟩ = some (.int .u8 92) := hs 2 (by decide)
  have c3 : w.cell? ⟨g, i + 3, none⟩ = some (.int .u8 34) := hs 3 (by decide)
  have c4 : w.cell? ⟨g, i + 4, none⟩ = some (.int .u8 98) := hs 4 (by decide)
  have c5 : w.cell? ⟨g, i + 5, none⟩ = some (.int .u8 125) := hs 5 (by decide)
  have c6 : w.cell? ⟨g, i + 6, none⟩ = some (.int .u8 34) := hs 6 (by decide)
  clear hs
  go_enter Ybaf.func9, Ybaf.ntmps9
  go_wp2_with fail
  refine wp_loop_rounds 5 ?_
  rw [rounds_succ]
  go_wp2_with fail
  rw [rounds_succ]
  go_wp2_with fail
  rw [rounds_succ]
  go_wp2_with fail
  rw [rounds_succ]
  go_wp2_with fail
  rw [rounds_succ]
  go_wp2_with fail
  go_ret2
  exact ⟨by simp; omega, K0⟩

set_option maxHeartbeats 2000000 in
set_option maxRecDepth 20000 in
theorem str3 (F : Interp) (g i n cap : Nat) (w : World) (hF : F.answers w.tape) (hs : StrAt g i [34, 92, 92, 34] w) (hn : i + 4 ≤ n) (hb : n ≤ 1000000) (hc : n ≤ cap) :
    Calls Ybaf.prog 9 #[.slice (some ⟨g, 0, none⟩) n cap, .int .i64 i] w fun r w' => r = .returned (.tuple #[.int .i64 ((i + 4 : Nat) : Int), .nilIface]) ∧ Kept [] w w' := by
  have K0 : Kept [] w w := Kept.refl _ _
  have c0 : w.cell? ⟨g, i + 0, none⟩ = some (.int .u8 34) := hs 0 (by decide)
  have c1 : w.cell? ⟨g, i + 1, none⟩ = some (.int .u8 92) := hs 1 (by decide)
  have c2 : w.cell? ⟨g, i + 2, none⟩ = some (.int .u8 92) := hs 2 (by decide)
  have c3 : w.cell? ⟨g, i + 3, none⟩ = some (.int .u8 34) := hs 3 (by decide)
  clear hs
  go_enter Ybaf.func9, Ybaf.ntmps9
  go_wp2_with fail
  refine wp_loop_rounds 2 ?_
  rw [rounds_succ]
  go_wp2_with fail
  rw [rounds_succ]
  go_wp2_with fail
  go_ret2
  exact ⟨by simp; omega, K0⟩

set_option maxHeartbeats 2000000 in
set_option maxRecDepth 20000 in
theorem str4 (F : Interp) (g i n cap : Nat) (w : World) (hF : F.answers w.tape) (hs : StrAt g i [34, 92, 92, 92, 34, 34] w) (hn : i + 6 ≤ n) (hb : n ≤ 1000000) (hc : n ≤ cap) :
    Calls Ybaf.prog 9 #[.slice (some ⟨g, 0, none⟩) n cap, .int .i64 i] w fun r w' => r = .returned (.tuple #[.int .i64 ((i + 6 : Nat) : Int), .nilIface]) ∧ Kept [] w w' := by
  have K0 : Kept [] w w := Kept.refl _ _
  have c0 : w.cell? ⟨g, i + 0, none⟩ = some (.int .u8 34) := hs 0 (by decide)
  have c1 : w.cell? ⟨g, i + 1, none⟩ = some (.int .u8 92) := hs 1 (by decide)
  have c2 : w.cell? ⟨g, i + 2, none⟩ = some (.int .u8 92) := hs 2 (by decide)
  have c3 : w.cell? ⟨g, i + 3, none⟩ = some (.int .u8 92) := hs 3 (by decide)
  have c4 : w.cell? ⟨g, i + 4, none⟩ = some (.int .u8 34) := hs 4 (by decide)
  have c5 : w.cell? ⟨g, i + 5, none⟩ = some (.int .u8 34) := hs 5 (by decide)
  clear hs
  go_enter Ybaf.func9, Ybaf.ntmps9
  go_wp2_with fail
  refine wp_loop_rounds 3 ?_
  rw [rounds_succ]
  go_wp2_with fail
  rw [rounds_succ]
  go_wp2_with fail
  rw [rounds_succ]
  go_wp2_with fail
  go_ret2
  exact ⟨by simp; omega, K0⟩

set_option maxHeartbeats 2000000 in
set_option maxRecDepth 20000 in
theorem str5 (F : Interp) (g i n cap : Nat) (w : World) (hF : F.answers w.tape) (hs : StrAt g i [34, 92, 117, 48, 48, 52, 49, 93, 34] w) (hn : i + 9 ≤ n) (hb : n ≤ 1000000) (hc : n ≤ cap) :
    Calls Ybaf.prog 9 #[.slice (some ⟨g, 0, none⟩) n cap, .int .i64 i] w fun r w' => r = .returned (.tuple #[.int .i64 ((i + 9 : Nat) : Int), .nilIface]) ∧ Kept [] w w' := by
  have K0 : Kept [] w w := Kept.refl _ _
  have c0 : w.cell? ⟨g, i + 0, none⟩ = some (.int .u8 34) := hs 0 (by decide)
  have c1 : w.cell? ⟨g, i + 1, none⟩ = some (.int .u8 92) := hs 1 (by decide)
  have c2 : w.cell? ⟨g, i + 2, none⟩ = some (.int .u8 117) := hs 2 (by decide)
  have c3 : w.cell? ⟨g, i + 3, none⟩ = some (.int .u8 48) := hs 3 (by decide)
  have c4 : w.cell? ⟨g, i + 4, none⟩ = some (.int .u8 48) := hs 4 (by decide)
  have c5 : w.cell? ⟨g, i + 5, none⟩ = some (.int .u8 52) := hs 5 (by decide)
  have c6 : w.cell? ⟨g, i + 6, none⟩ = some (.int .u8 49) := hs 6 (by decide)
  have c7 : w.cell? ⟨g, i + 7, none⟩ = some (.int .u8 93) := hs 7 (by decide)
  have c8 : w.cell? ⟨g, i + 8, none⟩ = some (.int .u8 34) := hs 8 (by decide)
  clear hs
  go_enter Ybaf.func9, Ybaf.ntmps9
  go_wp2_with fail
  refine wp_loop_rounds 3 ?_
  rw [rounds_succ]
  go_wp2_with fail
  refine Calls.mono (show Calls Ybaf.prog 11 _ w fun r w' => r = .returned (.int .i32 65) ∧ Kept [] w w' from codeUnit_any g _ _ 48 48 52 49 (by unfold isHex; omega) (by unfold isHex; omega) (by unfold isHex; omega) (by unfold isHex; omega) w c3 c4 c5 c6) ?_
  rintro _ w1 ⟨rfl, K⟩
  replace K0 := K0.trans K
  replace c0 := K.cell c0 (by simp)
  replace c1 := K.cell c1 (by simp)
  replace c2 := K.cell c2 (by simp)
  replace c3 := K.cell c3 (by simp)
  replace c4 := K.cell c4 (by simp)
  replace c5 := K.cell c5 (by simp)
  replace c6 := K.cell c6 (by simp)
  replace c7 := K.cell c7 (by simp)
  replace c8 := K.cell c8 (by simp)
  clear K
  go_wp2_with fail
  refine Calls.mono (show Calls Ybaf.prog 12 _ w1 fun r w' => r = .returned (.bool false) ∧ w' = w1 from surr_any 65 w1) ?_
  rintro _ w' ⟨rfl, e⟩
  rw [e]
  clear e w'
  go_wp2_with fail
  rw [rounds_succ]
  go_wp2_with fail
  rw [rounds_succ]
  go_wp2_with fail
  go_ret2
  exact ⟨by simp; omega, K0⟩

set_option maxHeartbeats 2000000 in
set_option maxRecDepth 20000 in
theorem str6 (F : Interp) (g i n cap : Nat) (w : World) (hF : F.answers w.tape) (hs : StrAt g i [34, 92, 117, 100, 56, 51, 100, 92, 117, 100, 101, 48, 48, 34] w) (hn : i + 14 ≤ n) (hb : n ≤ 1000000) (hc : n ≤ cap) :
    Calls Ybaf.prog 9 #[.slice (some ⟨g, 0, none⟩) n cap, .int .i64 i] w fun r w' => r = .returned (.tuple #[.int .i64 ((i + 14 : Nat) : Int), .nilIface]) ∧ Kept [] w w' := by
  have K0 : Kept [] w w := Kept.refl _ _
  have c0 : w.cell? ⟨g, i + 0, none⟩ = some (.int .u8 34) := hs 0 (by decide)
  have c1 : w.cell? ⟨g, i + 1, none⟩ = some (.int .u8 92) := hs 1 (by decide)
  have c2 : w.cell? ⟨g, i + 2, none⟩ = some (.int .u8 117) := hs 2 (by decide)
  have c3 : w.cell? ⟨g, i + 3, none⟩ = some (.int .u8 100) := hs 3 (by decide)
  have c4 : w.cell? ⟨g, i + 4, none⟩ = some (.int .u8 56) := hs 4 (by decide)
  have c5 : w.cell? ⟨g, i + 5, none⟩ = some (.int .u8 51) := hs 5 (by decide)
  have c6 : w.cell? ⟨g, i + 6, none⟩ = some (.int .u8 100) := hs 6 (by decide)
  have c7 : w.cell? ⟨g, i + 7, none⟩ = some (.int .u8 92) := hs 7 (by decide)
  have c8 : w.cell? ⟨g, i + 8, none⟩ = some (.int .u8 117) := hs 8 (by decide)
  have c9 : w.cell? ⟨g, i + 9, none⟩ = some (.int .u8 100) := hs 9 (by decide)
  have c10 : w.cell? ⟨g, i + 10, none⟩ = some (.int .u8 101) := hs 10 (by decide)
  have c11 : w.cell? ⟨g, i + 11, none⟩ = some (.int .u8 48) := hs 11 (by decide)
  have c12 : w.cell? ⟨g, i + 12, none⟩ = some (.int .u8 48) := hs 12 (by decide)
  have c13 : w.cell? ⟨g, i + 13, none⟩ = some (.int .u8 34) := hs 13 (by decide)
  clear hs
  go_enter Ybaf.func9, Ybaf.ntmps9
  go_wp2_with fail
  refine wp_loop_rounds 2 ?_
  rw [rounds_succ]
  go_wp2_with fail
  refine Calls.mono (show Calls Ybaf.prog 11 _ w fun r w' => r = .returned (.int .i32 55357) ∧ Kept [] w w' from codeUnit_any g _ _ 100 56 51 100 (by unfold isHex; omega) (by unfold isHex; omega) (by unfold isHex; omega) (by unfold isHex; omega) w c3 c4 c5 c6) ?_
  rintro _ w1 ⟨rfl, K⟩
  replace K0 := K0.trans K
  replace c0 := K.cell c0 (by simp)
  replace c1 := K.cell c1 (by simp)
  replace c2 := K.cell c2 (by simp)
  replace c3 := K.cell c3 (by simp)
  replace c4 := K.cell c4 (by simp)
  replace c5 := K.cell c5 (by simp)
  replace c6 := K.cell c6 (by simp)
  replace c7 := K.cell c7 (by simp)
  replace c8 := K.cell c8 (by simp)
  replace c9 := K.cell c9 (by simp)
  replace c10 := K.cell c10 (by simp)
  replace c11 := K.cell c11 (by simp)
  replace c12 := K.cell c12 (by simp)
  replace c13 := K.cell c13 (by simp)
  clear K
  go_wp2_with fail
  refine Calls.mono (show Calls Ybaf.prog 12 _ w1 fun r w' => r = .returned (.bool true) ∧ w' = w1 from surr_any 55357 w1) ?_
  rintro _ w' ⟨rfl, e⟩
  rw [e]
  clear e w'
  go_wp2_with fail
  refine Calls.mono (show Calls Ybaf.prog 11 _ w1 fun r w' => r = .returned (.int .i32 56832) ∧ Kept [] w1 w' from codeUnit_any g _ _ 100 101 48 48 (by unfold isHex; omega) (by unfold isHex; omega) (by unfold isHex; omega) (by unfold isHex; omega) w1 c9 c10 c11 c12) ?_
  rintro _ w2 ⟨rfl, K⟩
  replace K0 := K0.trans K
  replace c0 := K.cell c0 (by simp)
  replace c1 := K.cell c1 (by simp)
  replace c2 := K.cell c2 (by simp)
  replace c3 := K.cell c3 (by simp)
  replace c4 := K.cell c4 (by simp)
  replace c5 := K.cell c5 (by simp)
  replace c6 := K.cell c6 (by simp)
  replace c7 := K.cell c7 (by simp)
  replace c8 := K.cell c8 (by simp)
  replace c9 := K.cell c9 (by simp)
  replace c10 := K.cell c10 (by simp)
  replace c11 := K.cell c11 (by simp)
  replace c12 := K.cell c12 (by simp)
  replace c13 := K.cell c13 (by simp)
  clear K
  go_wp2_with fail
  refine (decode_pair w2).mono ?_
  rintro _ w' ⟨rfl, e⟩
  rw [e]
  clear e w'
  go_wp2_with fail
  rw [rounds_succ]
  go_wp2_with fail
  go_ret2
  exact ⟨by simp; omega, K0⟩

set_option maxHeartbeats 2000000 in
set_option maxRecDepth 20000 in
theorem str7 (F : Interp) (g i n cap : Nat) (w : World) (hF : F.answers w.tape) (hs : StrAt g i [34, 123, 91, 44, 92, 47, 32, 92, 110, 34] w) (hn : i + 10 ≤ n) (hb : n ≤ 1000000) (hc : n ≤ cap) :
    Calls Ybaf.prog 9 #[.slice (some ⟨g, 0, none⟩) n cap, .int .i64 i] w fun r w' => r = .returned (.tuple #[.int .i64 ((i + 10 : Nat) : Int), .nilIface]) ∧ Kept [] w w' := by
  have K0 : Kept [] w w := Kept.refl _ _
  have c0 : w.cell? ⟨g, i + 0, none⟩ = some (.int .u8 34) := hs 0 (by decide)
  have c1 : w.cell? ⟨g, i + 1, none⟩ = some (.int .u8 123) := hs 1 (by decide)
  have c2 : w.cell? ⟨g, i + 2, none⟩ = some (.int .u8 91) := hs 2 (by decide)
  have c3 : w.cell? ⟨g, i + 3, none⟩ = some (.int .u8 44) := hs 3 (by decide)
  have c4 : w.cell? ⟨g, i + 4, none⟩ = some (.int .u8 92) := hs 4 (by decide)
  have c5 : w.cell? ⟨g, i + 5, none⟩ = some (.int .u8 47) := hs 5 (by decide)
  have c6 : w.cell? ⟨g, i + 6, none⟩ = some (.int .u8 32) := hs 6 (by decide)
  have c7 : w.cell? ⟨g, i + 7, none⟩ = some (.int .u8 92) := hs 7 (by decide)
  have c8 : w.cell? ⟨g, i + 8, none⟩ = some (.int .u8 110) := hs 8 (by decide)
  have c9 : w.cell? ⟨g, i + 9, none⟩ = some (.int .u8 34) := hs 9 (by decide)
  clear hs
  go_enter Ybaf.func9, Ybaf.ntmps9
  go_wp2_with fail
  refine wp_loop_rounds 7 ?_
  rw [rounds_succ]
  go_wp2_with fail
  rw [rounds_succ]
  go_wp2_with fail
  rw [rounds_succ]
  go_wp2_with fail
  rw [rounds_succ]
  go_wp2_with fail
  rw [rounds_succ]
  go_wp2_with fail
  rw [rounds_succ]
  go_wp2_with fail
  rw [rounds_succ]
  go_wp2_with fail
  go_ret2
  exact ⟨by simp; omega, K0⟩

set_option maxHeartbeats 2000000 in
set_option maxRecDepth 20000 in
theorem str8 (F : Interp) (g i n cap : Nat) (w : World) (hF : F.answers w.tape) (hs : StrAt g i [34, 92, 117, 100, 56, 48, 48, 34] w) (hn : i + 8 ≤ n) (hb : n ≤ 1000000) (hc : n ≤ cap) :
    Calls Ybaf.prog 9 #[.slice (some ⟨g, 0, none⟩) n cap, .int .i64 i] w fun r w' => (∃ p, r = .returned (.tuple #[.int .i64 0, .iface 50 (.pointer (some p))])) ∧ Kept [] w w' := by
  have K0 : Kept [] w w := Kept.refl _ _
  have c0 : w.cell? ⟨g, i + 0, none⟩ = some (.int .u8 34) := hs 0 (by decide)
  have c1 : w.cell? ⟨g, i + 1, none⟩ = some (.int .u8 92) := hs 1 (by decide)
  have c2 : w.cell? ⟨g, i + 2, none⟩ = some (.int .u8 117) := hs 2 (by decide)
  have c3 : w.cell? ⟨g, i + 3, none⟩ = some (.int .u8 100) := hs 3 (by decide)
  have c4 : w.cell? ⟨g, i + 4, none⟩ = some (.int .u8 56) := hs 4 (by decide)
  have c5 : w.cell? ⟨g, i + 5, none⟩ = some (.int .u8 48) := hs 5 (by decide)
  have c6 : w.cell? ⟨g, i + 6, none⟩ = some (.int .u8 48) := hs 6 (by decide)
  have c7 : w.cell? ⟨g, i + 7, none⟩ = some (.int .u8 34) := hs 7 (by decide)
  clear hs
  go_enter Ybaf.func9, Ybaf.ntmps9
  go_wp2_with fail
  refine wp_loop_rounds 1 ?_
  rw [rounds_succ]
  go_wp2_with fail
  refine Calls.mono (show Calls Ybaf.prog 11 _ w fun r w' => r = .returned (.int .i32 55296) ∧ Kept [] w w' from codeUnit_any g _ _ 100 56 48 48 (by unfold isHex; omega) (by unfold isHex; omega) (by unfold isHex; omega) (by unfold isHex; omega) w c3 c4 c5 c6) ?_
  rintro _ w1 ⟨rfl, K⟩
  replace K0 := K0.trans K
  replace c0 := K.cell c0 (by simp)
  replace c1 := K.cell c1 (by simp)
  replace c2 := K.cell c2 (by simp)
  replace c3 := K.cell c3 (by simp)
  replace c4 := K.cell c4 (by simp)
  replace c5 := K.cell c5 (by simp)
  replace c6 := K.cell c6 (by simp)
  replace c7 := K.cell c7 (by simp)
  clear K
  go_wp2_with fail
  refine Calls.mono (show Calls Ybaf.prog 12 _ w1 fun r w' => r = .returned (.bool true) ∧ w' = w1 from surr_any 55296 w1) ?_
  rintro _ w' ⟨rfl, e⟩
  rw [e]
  clear e w'
  go_wp2_with fail
  have ha := alloc_at w1 (.cells #[.iface 22 (.slice (some ⟨g, i + 1, none⟩) 6 (cap - (i + 1)))] 20)
  refine (errorf_any F g (i + 1) (cap - (i + 1)) w1.heap.size 92 117 100 56 48 48 (w1.alloc (.cells #[.iface 22 (.slice (some ⟨g, i + 1, none⟩) 6 (cap - (i + 1)))] 20)) (by show F.answers w1.tape; rw [K0.tape]; exact hF) (cell_at ha 0 rfl) (fun m hm => by
    rcases (show m = 0 ∨ m = 1 ∨ m = 2 ∨ m = 3 ∨ m = 4 ∨ m = 5 by omega) with rfl | rfl | rfl | rfl | rfl | rfl
    · exact (Kept.alloc [] _ _).cell c1 (by simp)
    · exact (Kept.alloc [] _ _).cell c2 (by simp)
    · exact (Kept.alloc [] _ _).cell c3 (by simp)
    · exact (Kept.alloc [] _ _).cell c4 (by simp)
    · exact (Kept.alloc [] _ _).cell c5 (by simp)
    · exact (Kept.alloc [] _ _).cell c6 (by simp))).mono ?_
  rintro _ w' ⟨⟨p, rfl⟩, K⟩
  go_wp2_with fail
  go_ret2
  exact ⟨⟨p, rfl⟩, (K0.trans (Kept.alloc _ _ _)).trans K⟩

set_option maxHeartbeats 2000000 in
set_option maxRecDepth 20000 in
theorem str9 (F : Interp) (g i n cap : Nat) (w : World) (hF : F.answers w.tape) (hs : StrAt g i [34, 92, 117, 100, 99, 48, 48, 34] w) (hn : i + 8 ≤ n) (hb : n ≤ 1000000) (hc : n ≤ cap) :
    Calls Ybaf.prog 9 #[.slice (some ⟨g, 0, none⟩) n cap, .int .i64 i] w fun r w' => (∃ p, r = .returned (.tuple #[.int .i64 0, .iface 50 (.pointer (some p))])) ∧ Kept [] w w' := by
  have K0 : Kept [] w w := Kept.refl _ _
  have c0 : w.cell? ⟨g, i + 0, none⟩ = some (.int .u8 34) := hs 0 (by decide)
  have c1 : w.cell? ⟨g, i + 1, none⟩ = some (.int .u8 92) := hs 1 (by decide)
  have c2 : w.cell? ⟨g, i + 2, none⟩ = some (.int .u8 117) := hs 2 (by decide)
  have c3 : w.cell? ⟨g, i + 3, none⟩ = some (.int .u8 100) := hs 3 (by decide)
  have c4 : w.cell? ⟨g, i + 4, none⟩ = some (.int .u8 99) := hs 4 (by decide)
  have c5 : w.cell? ⟨g, i + 5, none⟩ = some (.int .u8 48) := hs 5 (by decide)
  have c6 : w.cell? ⟨g, i + 6, none⟩ = some (.int .u8 48) := hs 6 (by decide)
  have c7 : w.cell? ⟨g, i + 7, none⟩ = some (.int .u8 34) := hs 7 (by decide)
  clear hs
  go_enter Ybaf.func9, Ybaf.ntmps9
  go_wp2_with fail
  refine wp_loop_rounds 1 ?_
  rw [rounds_succ]
  go_wp2_with fail
  refine Calls.mono (show Calls Ybaf.prog 11 _ w fun r w' => r = .returned (.int .i32 56320) ∧ Kept [] w w' from codeUnit_any g _ _ 100 99 48 48 (by unfold isHex; omega) (by unfold isHex; omega) (by unfold isHex; omega) (by unfold isHex; omega) w c3 c4 c5 c6) ?_
  rintro _ w1 ⟨rfl, K⟩
  replace K0 := K0.trans K
  replace c0 := K.cell c0 (by simp)
  replace c1 := K.cell c1 (by simp)
  replace c2 := K.cell c2 (by simp)
  replace c3 := K.cell c3 (by simp)
  replace c4 := K.cell c4 (by simp)
  replace c5 := K.cell c5 (by simp)
  replace c6 := K.cell c6 (by simp)
  replace c7 := K.cell c7 (by simp)
  clear K
  go_wp2_with fail
  refine Calls.mono (show Calls Ybaf.prog 12 _ w1 fun r w' => r = .returned (.bool true) ∧ w' = w1 from surr_any 56320 w1) ?_
  rintro _ w' ⟨rfl, e⟩
  rw [e]
  clear e w'
  go_wp2_with fail
  have ha := alloc_at w1 (.cells #[.iface 22 (.slice (some ⟨g, i + 1, none⟩) 6 (cap - (i + 1)))] 20)
  refine (errorf_any F g (i + 1) (cap - (i + 1)) w1.heap.size 92 117 100 99 48 48 (w1.alloc (.cells #[.iface 22 (.slice (some ⟨g, i + 1, none⟩) 6 (cap - (i + 1)))] 20)) (by show F.answers w1.tape; rw [K0.tape]; exact hF) (cell_at ha 0 rfl) (fun m hm => by
    rcases (show m = 0 ∨ m = 1 ∨ m = 2 ∨ m = 3 ∨ m = 4 ∨ m = 5 by omega) with rfl | rfl | rfl | rfl | rfl | rfl
    · exact (Kept.alloc [] _ _).cell c1 (by simp)
    · exact (Kept.alloc [] _ _).cell c2 (by simp)
    · exact (Kept.alloc [] _ _).cell c3 (by simp)
    · exact (Kept.alloc [] _ _).cell c4 (by simp)
    · exact (Kept.alloc [] _ _).cell c5 (by simp)
    · exact (Kept.alloc [] _ _).cell c6 (by simp))).mono ?_
  rintro _ w' ⟨⟨p, rfl⟩, K⟩
  go_wp2_with fail
  go_ret2
  exact ⟨⟨p, rfl⟩, (K0.trans (Kept.alloc _ _ _)).trans K⟩

set_option maxHeartbeats 2000000 in
set_option maxRecDepth 20000 in
theorem str10 (F : Interp) (g i n cap : Nat) (w : World) (hF : F.answers w.tape) (hs : StrAt g i [34, 92, 117, 100, 56, 51, 100, 92, 117, 48, 48, 52, 49, 34] w) (hn : i + 14 ≤ n) (hb : n ≤ 1000000) (hc : n ≤ cap) :
    Calls Ybaf.prog 9 #[.slice (some ⟨g, 0, none⟩) n cap, .int .i64 i] w fun r w' => (∃ p, r = .returned (.tuple #[.int .i64 0, .iface 50 (.pointer (some p))])) ∧ Kept [] w w' := by
  have K0 : Kept [] w w := Kept.refl _ _
  have c0 : w.cell? ⟨g, i + 0, none⟩ = some (.int .u8 34) := hs 0 (by decide)
  have c1 : w.cell? ⟨g, i + 1, none⟩ = some (.int .u8 92) := hs 1 (by decide)
  have c2 : w.cell? ⟨g, i + 2, none⟩ = some (.int .u8 117) := hs 2 (by decide)
  have c3 : w.cell? ⟨g, i + 3, none⟩ = some (.int .u8 100) := hs 3 (by decide)
  have c4 : w.cell? ⟨g, i + 4, none⟩ = some (.int .u8 56) := hs 4 (by decide)
  have c5 : w.cell? ⟨g, i + 5, none⟩ = some (.int .u8 51) := hs 5 (by decide)
  have c6 : w.cell? ⟨g, i + 6, none⟩ = some (.int .u8 100) := hs 6 (by decide)
  have c7 : w.cell? ⟨g, i + 7, none⟩ = some (.int .u8 92) := hs 7 (by decide)
  have c8 : w.cell? ⟨g, i + 8, none⟩ = some (.int .u8 117) := hs 8 (by decide)
  have c9 : w.cell? ⟨g, i + 9, none⟩ = some (.int .u8 48) := hs 9 (by decide)
  have c10 : w.cell? ⟨g, i + 10, none⟩ = some (.int .u8 48) := hs 10 (by decide)
  have c11 : w.cell? ⟨g, i + 11, none⟩ = some (.int .u8 52) := hs 11 (by decide)
  have c12 : w.cell? ⟨g, i + 12, none⟩ = some (.int .u8 49) := hs 12 (by decide)
  have c13 : w.cell? ⟨g, i + 13, none⟩ = some (.int .u8 34) := hs 13 (by decide)
  clear hs
  go_enter Ybaf.func9, Ybaf.ntmps9
  go_wp2_with fail
  refine wp_loop_rounds 1 ?_
  rw [rounds_succ]
  go_wp2_with fail
  refine Calls.mono (show Calls Ybaf.prog 11 _ w fun r w' => r = .returned (.int .i32 55357) ∧ Kept [] w w' from codeUnit_any g _ _ 100 56 51 100 (by unfold isHex; omega) (by unfold isHex; omega) (by unfold isHex; omega) (by unfold isHex; omega) w c3 c4 c5 c6) ?_
  rintro _ w1 ⟨rfl, K⟩
  replace K0 := K0.trans K
  replace c0 := K.cell c0 (by simp)
  replace c1 := K.cell c1 (by simp)
  replace c2 := K.cell c2 (by simp)
  replace c3 := K.cell c3 (by simp)
  replace c4 := K.cell c4 (by simp)
  replace c5 := K.cell c5 (by simp)
  replace c6 := K.cell c6 (by simp)
  replace c7 := K.cell c7 (by simp)
  replace c8 := K.cell c8 (by simp)
  replace c9 := K.cell c9 (by simp)
  replace c10 := K.cell c10 (by simp)
  replace c11 := K.cell c11 (by simp)
  replace c12 := K.cell c12 (by simp)
  replace c13 := K.cell c13 (by simp)
  clear K
  go_wp2_with fail
  refine Calls.mono (show Calls Ybaf.prog 12 _ w1 fun r w' => r = .returned (.bool true) ∧ w' = w1 from surr_any 55357 w1) ?_
  rintro _ w' ⟨rfl, e⟩
  rw [e]
  clear e w'
  go_wp2_with fail
  refine Calls.mono (show Calls Ybaf.prog 11 _ w1 fun r w' => r = .returned (.int .i32 65) ∧ Kept [] w1 w' from codeUnit_any g _ _ 48 48 52 49 (by unfold isHex; omega) (by unfold isHex; omega) (by unfold isHex; omega) (by unfold isHex; omega) w1 c9 c10 c11 c12) ?_
  rintro _ w2 ⟨rfl, K⟩
  replace K0 := K0.trans K
  replace c0 := K.cell c0 (by simp)
  replace c1 := K.cell c1 (by simp)
  replace c2 := K.cell c2 (by simp)
  replace c3 := K.cell c3 (by simp)
  replace c4 := K.cell c4 (by simp)
  replace c5 := K.cell c5 (by simp)
  replace c6 := K.cell c6 (by simp)
  replace c7 := K.cell c7 (by simp)
  replace c8 := K.cell c8 (by simp)
  replace c9 := K.cell c9 (by simp)
  replace c10 := K.cell c10 (by simp)
  replace c11 := K.cell c11 (by simp)
  replace c12 := K.cell c12 (by simp)
  replace c13 := K.cell c13 (by simp)
  clear K
  go_wp2_with fail
  refine (decode_not w2).mono ?_
  rintro _ w' ⟨rfl, e⟩
  rw [e]
  clear e w'
  go_wp2_with fail
  have ha := alloc_at w2 (.cells #[.iface 22 (.slice (some ⟨g, i + 1, none⟩) 6 (cap - (i + 1)))] 20)
  refine (errorf_any F g (i + 1) (cap - (i + 1)) w2.heap.size 92 117 100 56 51 100 (w2.alloc (.cells #[.iface 22 (.slice (some ⟨g, i + 1, none⟩) 6 (cap - (i + 1)))] 20)) (by show F.answers w2.tape; rw [K0.tape]; exact hF) (cell_at ha 0 rfl) (fun m hm => by
    rcases (show m = 0 ∨ m = 1 ∨ m = 2 ∨ m = 3 ∨ m = 4 ∨ m = 5 by omega) with rfl | rfl | rfl | rfl | rfl | rfl
    · exact (Kept.alloc [] _ _).cell c1 (by simp)
    · exact (Kept.alloc [] _ _).cell c2 (by simp)
    · exact (Kept.alloc [] _ _).cell c3 (by simp)
    · exact (Kept.alloc [] _ _).cell c4 (by simp)
    · exact (Kept.alloc [] _ _).cell c5 (by simp)
    · exact (Kept.alloc [] _ _).cell c6 (by simp))).mono ?_
  rintro _ w' ⟨⟨p, rfl⟩, K⟩
  go_wp2_with fail
  go_ret2
  exact ⟨⟨p, rfl⟩, (K0.trans (Kept.alloc _ _ _)).trans K⟩

set_option maxHeartbeats 2000000 in
set_option maxRecDepth 20000 in
theorem str11 (F : Interp) (g i n cap : Nat) (w : World) (hF : F.answers w.tape) (hs : StrAt g i [34, 120, 92, 117, 100, 56, 51, 100, 92, 92, 34] w) (hn : i + 11 ≤ n) (hb : n ≤ 1000000) (hc : n ≤ cap) :
    Calls Ybaf.prog 9 #[.slice (some ⟨g, 0, none⟩) n cap, .int .i64 i] w fun r w' => (∃ p, r = .returned (.tuple #[.int .i64 0, .iface 50 (.pointer (some p))])) ∧ Kept [] w w' := by
  have K0 : Kept [] w w := Kept.refl _ _
  have c0 : w.cell? ⟨g, i + 0, none⟩ = some (.int .u8 34) := hs 0 (by decide)
  have c1 : w.cell? ⟨g, i + 1, none⟩ = some (.int .u8 120) := hs 1 (by decide)
  have c2 : w.cell? ⟨g, i + 2, none⟩ = some (.int .u8 92) := hs 2 (by decide)
  have c3 : w.cell? ⟨g, i + 3, none⟩ = some (.int .u8 117) := hs 3 (by decide)
  have c4 : w.cell? ⟨g, i + 4, none⟩ = some (.int .u8 100) := hs 4 (by decide)
  have c5 : w.cell? ⟨g, i + 5, none⟩ = some (.int .u8 56) := hs 5 (by decide)
  have c6 : w.cell? ⟨g, i + 6, none⟩ = some (.int .u8 51) := hs 6 (by decide)
  have c7 : w.cell? ⟨g, i + 7, none⟩ = some (.int .u8 100) := hs 7 (by decide)
  have c8 : w.cell? ⟨g, i + 8, none⟩ = some (.int .u8 92) := hs 8 (by decide)
  have c9 : w.cell? ⟨g, i + 9, none⟩ = some (.int .u8 92) := hs 9 (by decide)
  have c10 : w.cell? ⟨g, i + 10, none⟩ = some (.int .u8 34) := hs 10 (by decide)
  clear hs
  go_enter Ybaf.func9, Ybaf.ntmps9
  go_wp2_with fail
  refine wp_loop_rounds 2 ?_
  rw [rounds_succ]
  go_wp2_with fail
  rw [rounds_succ]
  go_wp2_with fail
  refine Calls.mono (show Calls Ybaf.prog 11 _ w fun r w' => r = .returned (.int .i32 55357) ∧ Kept [] w w' from codeUnit_any g _ _ 100 56 51 100 (by unfold isHex; omega) (by unfold isHex; omega) (by unfold isHex; omega) (by unfold isHex; omega) w c4 c5 c6 c7) ?_
  rintro _ w1 ⟨rfl, K⟩
  replace K0 := K0.trans K
  replace c0 := K.cell c0 (by simp)
  replace c1 := K.cell c1 (by simp)
  replace c2 := K.cell c2 (by simp)
  replace c3 := K.cell c3 (by simp)
  replace c4 := K.cell c4 (by simp)
  replace c5 := K.cell c5 (by simp)
  replace c6 := K.cell c6 (by simp)
  replace c7 := K.cell c7 (by simp)
  replace c8 := K.cell c8 (by simp)
  replace c9 := K.cell c9 (by simp)
  replace c10 := K.cell c10 (by simp)
  clear K
  go_wp2_with fail
  refine Calls.mono (show Calls Ybaf.prog 12 _ w1 fun r w' => r = .returned (.bool true) ∧ w' = w1 from surr_any 55357 w1) ?_
  rintro _ w' ⟨rfl, e⟩
  rw [e]
  clear e w'
  go_wp2_with fail
  have ha := alloc_at w1 (.cells #[.iface 22 (.slice (some ⟨g, i + 2, none⟩) 6 (cap - (i + 2)))] 20)
  refine (errorf_any F g (i + 2) (cap - (i + 2)) w1.heap.size 92 117 100 56 51 100 (w1.alloc (.cells #[.iface 22 (.slice (some ⟨g, i + 2, none⟩) 6 (cap - (i + 2)))] 20)) (by show F.answers w1.tape; rw [K0.tape]; exact hF) (cell_at ha 0 rfl) (fun m hm => by
    rcases (show m = 0 ∨ m = 1 ∨ m = 2 ∨ m = 3 ∨ m = 4 ∨ m = 5 by omega) with rfl | rfl | rfl | rfl | rfl | rfl
    · exact (Kept.alloc [] _ _).cell c2 (by simp)
    · exact (Kept.alloc [] _ _).cell c3 (by simp)
    · exact (Kept.alloc [] _ _).cell c4 (by simp)
    · exact (Kept.alloc [] _ _).cell c5 (by simp)
    · exact (Kept.alloc [] _ _).cell c6 (by simp)
    · exact (Kept.alloc [] _ _).cell c7 (by simp))).mono ?_
  rintro _ w' ⟨⟨p, rfl⟩, K⟩
  go_wp2_with fail
  go_ret2
  exact ⟨⟨p, rfl⟩, (K0.trans (Kept.alloc _ _ _)).trans K⟩
end Go.Proofs.YbulkcqsiFmt
