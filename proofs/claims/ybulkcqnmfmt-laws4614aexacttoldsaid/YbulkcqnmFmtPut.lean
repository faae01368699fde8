import Derived.Test.YbulkcqnmFmtUints
namespace Go.Proofs.YbulkcqnmFmt
set_option linter.unusedVariables false
set_option linter.unusedSimpArgs false
open Go.RowKit

theorem be_front (x : Int) (n k : Nat) (h : k ≤ n) : ∃ fr, be x n = fr ++ be x k ∧ fr.length = n - k := by
  induction n with
  | zero => obtain rfl : k = 0 := by omega
            exact ⟨[], rfl, rfl⟩
  | succ n ih =>
    by_cases hk : k = n + 1
    · subst hk; exact ⟨[], by simp, by simp⟩
    · obtain ⟨fr, h1, h2⟩ := ih (by omega)
      exact ⟨(x / 256 ^ n) % 256 :: fr, by simp [be, h1], by simp [h2]; omega⟩

theorem pow8 (j : Nat) : (2 : Int) ^ (8 * j) = 256 ^ j := by
  rw [Int.pow_mul]; rfl

theorem Appended.refl {base : Nat} {v : Value} {xs : List Int} {w : World} (h : w.ownsRow base 5 1 v xs.length (bs xs)) : Appended base v xs [] w v w :=
  ⟨by simpa using h, Kept.refl _ _, .inl rfl, id⟩

set_option maxHeartbeats 1000000 in
theorem put_any (base : Nat) (v : Value) (xs : List Int) (x : Int) (n : Nat) (h0 : 0 ≤ x) (h1 : x < 18446744073709551616) (hn : n ≤ 8) (w : World) (hown : w.ownsRow base 5 1 v xs.length (bs xs)) (hb : base ≤ w.heap.size) (hl : xs.length ≤ 900000) :
    Calls Ybaf.prog 7 #[v, .int .u64 x, .int .i64 n] w fun r w' => ∃ v', r = .returned v' ∧ Appended base v xs (be x n) w v' w' := by
  obtain ⟨i0, hi, hz0, hz1, hz2⟩ := info_parts Ybaf.info5
  go_enter Ybaf.func7, Ybaf.ntmps7
  go_wp2
  go_loopw [0, 7] (fun b i wr => ∃ (k : Nat) (fr : List Int), k ≤ n ∧ i = .int .i64 ((k : Int) - 1) ∧ Hid (be x n = fr ++ be x k) ∧ fr.length = n - k ∧ Appended base v xs fr w b wr) (fun _ i _ => (intOf i + 1).toNat)
  case atStart => exact ⟨n, [], Nat.le_refl _, rfl, by show _ = _; simp, by simp, Appended.refl hown⟩
  case round =>
    obtain ⟨k, fr, hk, rfl, hfr, hfl, hA⟩ := hrel
    have hW := hA.2.1.size
    cases k with
    | zero =>
      go_wp2
      go_ret
      refine ⟨_, rfl, ?_⟩
      have := hfr.out
      simp [be] at this
      rw [this]; exact hA
    | succ j =>
      have ho := hA.owns
      have hlf : (xs ++ fr).length ≤ 900008 := by simp; omega
      go_wp2_with (at_builtin; refine wpList_bytes rfl (.tmp 14) (.tmp 21) 49 (by rfl) base i0 Ybaf.underlying49 hi hz0 hz1 hz2 u0 _ (xs ++ fr) (by rfl) rfl (ho.alloc _) ⟨wr.heap.size, 0, none⟩ 1 1 [(x / 256 ^ j) % 256] (by rfl) rfl (by omega) ?news (by omega) (by simp; omega) ?_)
      case news =>
        rw [pow8]
        exact World.news_of_block (cs := #[.int .u8 (x / 256 ^ j % 256)]) (alloc_at _ _)
      intro v' w' hB
      have hC := hA.trans (hB.of_kept (Kept.alloc _ _ _))
      have hD : Hid (be x n = (fr ++ [x / 256 ^ j % 256]) ++ be x j) := by
        show _ = _
        rw [hfr.out]; simp [be]
      clear hB hA ho hfr
      go_wp2
      go_roundw
      case rel => exact ⟨j, fr ++ [x / 256 ^ j % 256], by omega, by go_num, hD, by simp; omega, hC⟩
      case measure => simp [intOf] <;> omega

/-- A string's bytes as numbers. -/
def nums (s : ByteArray) : List Int := s.data.toList.map fun c => (c.toNat : Int)
theorem nums_length (s : ByteArray) : (nums s).length = s.size := by simp [nums]

set_option maxHeartbeats 400000 in
theorem name_any (base : Nat) (v : Value) (xs : List Int) (s : ByteArray) (hs : s.size ≤ 1024) (w : World) (hown : w.ownsRow base 5 1 v xs.length (bs xs)) (hb : base ≤ w.heap.size) (hl : xs.length ≤ 900000) :
    Calls Ybaf.prog 10 #[v, .string s] w fun r w' => ∃ v', r = .returned v' ∧ Appended base v xs ((s.size : Int) % 256 :: nums s) w v' w' := by
  obtain ⟨i0, hi, hz0, hz1, hz2⟩ := info_parts Ybaf.info5
  go_enter Ybaf.func10, Ybaf.ntmps10
  go_wp2_with (at_builtin; refine wpList_bytes rfl (.tmp 5) (.tmp 9) 49 (by rfl) base i0 Ybaf.underlying49 hi hz0 hz1 hz2 v _ xs (by rfl) rfl (hown.alloc _) ⟨w.heap.size, 0, none⟩ 1 1 [(s.size : Int) % 256] (by rfl) rfl (by omega) ?news (by omega) (by simp; omega) ?_)
  case news => first | exact World.news_of_block (cs := #[.int .u8 ((s.size : Int) % 256)]) (alloc_at _ _) | (simp [bs]; done)
  intro v1 w1 hA
  have hz := hA.2.1.size
  have ho := hA.owns
  have hl1 : (xs ++ [(s.size : Int) % 256]).length ≤ 900001 := by simp; omega
  go_wp2_with (at_builtin; refine wpList_str rfl (.tmp 10) (.tmp 11) 49 9 (by rfl) base i0 Ybaf.underlying49 Ybaf.underlying9 hi hz0 hz1 hz2 v1 _ (xs ++ [(s.size : Int) % 256]) (by rfl) rfl ho s (by rfl) (by omega) (by simp at hz; omega) ?_)
  intro v2 w2 hB
  have hC := (hA.of_kept (Kept.alloc _ _ _)).trans hB
  clear hA hB ho hz
  go_wp2
  go_ret
  exact ⟨v2, rfl, hC⟩
end Go.Proofs.YbulkcqnmFmt
