import Derived.Test.YbulkcqnmFmtBytes
namespace Go.Proofs.YbulkcqnmFmt
set_option linter.unusedVariables false
set_option linter.unusedSimpArgs false
open Go.RowKit

theorem Appended.of_kept {base : Nat} {v v' : Value} {xs news : List Int} {w w1 w' : World} (K : Kept [] w w1) (h : Appended base v xs news w1 v' w') : Appended base v xs news w v' w' :=
  ⟨h.1, (K.mono (by simp)).trans h.2.1, h.2.2.1.imp id (fun h' g hg => Nat.le_trans K.size (h' g hg)), h.2.2.2⟩

theorem Appended.trans {base : Nat} {v v1 v2 : Value} {xs n1 n2 : List Int} {w w1 w2 : World} (h1 : Appended base v xs n1 w v1 w1) (h2 : Appended base v1 (xs ++ n1) n2 w1 v2 w2) : Appended base v xs (n1 ++ n2) w v2 w2 := by
  obtain ⟨a1, a2, a3, a4⟩ := h1
  obtain ⟨b1, b2, b3, b4⟩ := h2
  refine ⟨by simpa [Nat.add_assoc] using b1, a2.trans' b2 ?_, ?_, fun h => a4 (b4 h)⟩
  · intro x hx
    rcases a3 with a3 | a3
    · left; rw [← a3]; exact hx
    · right; exact a3 x (by simpa using hx)
  · rcases b3 with b3 | b3
    · rw [b3]; exact a3
    · right; intro g hg; exact Nat.le_trans a2.size (b3 g hg)

theorem Appended.owns {base : Nat} {v v' : Value} {xs news : List Int} {w w' : World} (h : Appended base v xs news w v' w') : w'.ownsRow base 5 1 v' (xs ++ news).length (bs (xs ++ news)) := by
  have := h.1; simpa using this

theorem Appended.below {base : Nat} {v v' : Value} {xs news : List Int} {w w' : World} {n : Nat} {ys : List Value} (h : Appended base v xs news w v' w') (hv : w.ownsRow base 5 1 v n ys) (hb : base ≤ w.heap.size) : Below base w w' :=
  h.2.1.below hb fun x hx => (hv.lt x (by simpa using hx)).1

set_option maxHeartbeats 400000 in
theorem app16 (base : Nat) (v : Value) (xs : List Int) (x : Int) (h0 : 0 ≤ x) (h1 : x < 65536) (w : World) (hown : w.ownsRow base 5 1 v xs.length (bs xs)) (hb : base ≤ w.heap.size) (hl : xs.length ≤ 900000) :
    Calls Ybaf.prog 16 #[.agg #[], v, .int .u16 x] w fun r w' => ∃ v', r = .returned v' ∧ Appended base v xs (be x 2) w v' w' := by
  obtain ⟨i0, hi, hz0, hz1, hz2⟩ := info_parts Ybaf.info5
  have e4 : Hid (bs (be x 2) = (#[.int .u8 (x / 256), .int .u8 (x % 256)] : Array Value).toList) := by show _ = _; simp [bs, be]; omega
  go_enter Ybaf.func16, Ybaf.ntmps16
  go_wp2_with (at_builtin; refine wpList_bytes rfl (.tmp 7) (.tmp 13) 49 (by rfl) base i0 Ybaf.underlying49 hi hz0 hz1 hz2 v _ xs (by rfl) rfl ((hown.alloc _).alloc _) ⟨w.heap.size + 1, 0, none⟩ 2 2 (be x 2) (by rfl) rfl (by omega) ?news (by omega) (by simp; omega) ?_)
  case news =>
    rw [e4.out]
    exact fun _ _ h => h
  intro v' w' hA
  clear e4
  go_wp2
  go_ret
  exact ⟨v', rfl, hA.of_kept ((Kept.alloc _ _ _).trans (Kept.alloc _ _ _))⟩

set_option maxHeartbeats 400000 in
theorem app32 (base : Nat) (v : Value) (xs : List Int) (x : Int) (h0 : 0 ≤ x) (h1 : x < 4294967296) (w : World) (hown : w.ownsRow base 5 1 v xs.length (bs xs)) (hb : base ≤ w.heap.size) (hl : xs.length ≤ 900000) :
    Calls Ybaf.prog 9 #[.agg #[], v, .int .u32 x] w fun r w' => ∃ v', r = .returned v' ∧ Appended base v xs (be x 4) w v' w' := by
  obtain ⟨i0, hi, hz0, hz1, hz2⟩ := info_parts Ybaf.info5
  have e4 : Hid (bs (be x 4) = (#[.int .u8 (x / 16777216), .int .u8 (x / 65536 % 256), .int .u8 (x / 256 % 256), .int .u8 (x % 256)] : Array Value).toList) := by show _ = _; simp [bs, be]; omega
  go_enter Ybaf.func9, Ybaf.ntmps9
  go_wp2_with (at_builtin; refine wpList_bytes rfl (.tmp 7) (.tmp 19) 49 (by rfl) base i0 Ybaf.underlying49 hi hz0 hz1 hz2 v _ xs (by rfl) rfl ((hown.alloc _).alloc _) ⟨w.heap.size + 1, 0, none⟩ 4 4 (be x 4) (by rfl) rfl (by omega) ?news (by omega) (by simp; omega) ?_)
  case news =>
    rw [e4.out]
    exact fun _ _ h => h
  intro v' w' hA
  clear e4
  go_wp2
  go_ret
  exact ⟨v', rfl, hA.of_kept ((Kept.alloc _ _ _).trans (Kept.alloc _ _ _))⟩

set_option maxHeartbeats 400000 in
theorem app64 (base : Nat) (v : Value) (xs : List Int) (x : Int) (h0 : 0 ≤ x) (h1 : x < 18446744073709551616) (w : World) (hown : w.ownsRow base 5 1 v xs.length (bs xs)) (hb : base ≤ w.heap.size) (hl : xs.length ≤ 900000) :
    Calls Ybaf.prog 13 #[.agg #[], v, .int .u64 x] w fun r w' => ∃ v', r = .returned v' ∧ Appended base v xs (be x 8) w v' w' := by
  obtain ⟨i0, hi, hz0, hz1, hz2⟩ := info_parts Ybaf.info5
  have e4 : Hid (bs (be x 8) = (#[.int .u8 (x / 72057594037927936), .int .u8 (x / 281474976710656 % 256), .int .u8 (x / 1099511627776 % 256), .int .u8 (x / 4294967296 % 256), .int .u8 (x / 16777216 % 256), .int .u8 (x / 65536 % 256), .int .u8 (x / 256 % 256), .int .u8 (x % 256)] : Array Value).toList) := by show _ = _; simp [bs, be]; omega
  go_enter Ybaf.func13, Ybaf.ntmps13
  go_wp2_with (at_builtin; refine wpList_bytes rfl (.tmp 7) (.tmp 31) 49 (by rfl) base i0 Ybaf.underlying49 hi hz0 hz1 hz2 v _ xs (by rfl) rfl ((hown.alloc _).alloc _) ⟨w.heap.size + 1, 0, none⟩ 8 8 (be x 8) (by rfl) rfl (by omega) ?news (by omega) (by simp; omega) ?_)
  case news =>
    rw [e4.out]
    exact fun _ _ h => h
  intro v' w' hA
  clear e4
  go_wp2
  go_ret
  exact ⟨v', rfl, hA.of_kept ((Kept.alloc _ _ _).trans (Kept.alloc _ _ _))⟩

end Go.Proofs.YbulkcqnmFmt
