import Derived.Test.YbulkcqsiFmtBytes
namespace Go.Proofs.YbulkcqsiFmt
set_option linter.unusedVariables false
set_option linter.unusedSimpArgs false
open Go.RowKit

def isSp (c : Int) : Bool := c == 32 || c == 9 || c == 10 || c == 13
def isDe (c : Int) : Bool := c == 44 || c == 125 || c == 93 || isSp c

theorem isSpace_any (c : Int) (w : World) : Calls Ybaf.prog 10 #[.int .u8 c] w fun r w' => r = .returned (.bool (isSp c)) ∧ w' = w := by
  by_cases h1 : c = 32
  · subst h1
    go_enter Ybaf.func10, Ybaf.ntmps10
    go_wp2
    go_ret
    exact ⟨rfl, rfl⟩
  by_cases h2 : c = 9
  · subst h2
    go_enter Ybaf.func10, Ybaf.ntmps10
    go_wp2
    go_ret
    exact ⟨rfl, rfl⟩
  by_cases h3 : c = 10
  · subst h3
    go_enter Ybaf.func10, Ybaf.ntmps10
    go_wp2
    go_ret
    exact ⟨rfl, rfl⟩
  have e : isSp c = (c == 13) := by simp [isSp, h1, h2, h3]
  rw [e]
  go_enter Ybaf.func10, Ybaf.ntmps10
  go_wp2
  go_ret
  refine ⟨?_, rfl⟩
  simp [h1, h2, h3]

/-- The cells of a row of bytes. -/
def BytesAt (g : Nat) (n : Nat) (x : Nat → Int) (w : World) : Prop := ∀ j, j < n → w.cell? ⟨g, j, none⟩ = some (.int .u8 (x j))

theorem BytesAt.kept {S : List Nat} {g n : Nat} {x : Nat → Int} {w w' : World} (h : BytesAt g n x w) (k : Kept S w w') (hg : g ∉ S) : BytesAt g n x w' := fun j hj => k.cell (h j hj) hg

set_option maxRecDepth 20000 in
theorem value_scalar (g n cap i j0 : Nat) (x : Nat → Int) (w : World) (hx : BytesAt g n x w) (hn : n ≤ 10000000) (hi : i < n) (h34 : x i ≠ 34) (h123 : x i ≠ 123) (h91 : x i ≠ 91)
    (hj : i ≤ j0) (hjn : j0 ≤ n) (hno : ∀ k, i ≤ k → k < j0 → isDe (x k) = false) (hend : j0 < n → isDe (x j0) = true) :
    Calls Ybaf.prog 6 #[.slice (some ⟨g, 0, none⟩) n cap, .int .i64 i] w fun r w' => r = .returned (.tuple #[.int .i64 j0, .nilIface]) ∧ Kept [] w w' := by
  have c0 := hx i hi
  have q1 : (x i == 34) = false := by simp [h34]
  have q2 : (x i == 123) = false := by simp [h123]
  have q3 : (x i == 91) = false := by simp [h91]
  go_enter Ybaf.func6, Ybaf.ntmps6
  go_wp2_with fail
  clear c0
  go_loopw [1] (fun v wr => ∃ k : Nat, v = .int .i64 k ∧ i ≤ k ∧ k ≤ j0 ∧ Kept [] w wr) (fun v _ => j0 - (intOf v).toNat)
  case atStart => exact ⟨i, rfl, Nat.le_refl _, hj, Kept.refl _ _⟩
  case round =>
    obtain ⟨k, rfl, hik, hkj, hK⟩ := hrel
    by_cases hlt : k < n
    · have c0 := hK.cell (hx k hlt) (by simp)
      by_cases hkd : k < j0
      · have hd := hno k hik hkd
        generalize x k = c at c0 hd
        simp only [isDe, Bool.or_eq_false_iff, beq_eq_false_iff_ne] at hd
        obtain ⟨⟨⟨d1, d2⟩, d3⟩, d4⟩ := hd
        have e1 : (c != 44) = true := by simp [d1]
        have e2 : (c != 125) = true := by simp [d2]
        have e3 : (c != 93) = true := by simp [d3]
        go_wp2_with fail
        refine (isSpace_any c wr).mono ?_
        rintro _ w' ⟨rfl, e⟩
        rw [e, d4]
        clear e w'
        go_wp2_with fail
        go_roundw
        case rel => exact ⟨k + 1, by go_num, by omega, by omega, hK⟩
        case measure => simp [intOf] <;> omega
      · obtain rfl : k = j0 := by omega
        have hd := hend hlt
        generalize x k = c at c0 hd
        by_cases d1 : c = 44
        · subst d1
          go_wp2_with fail
          go_ret2
          exact ⟨rfl, hK⟩
        by_cases d2 : c = 125
        · subst d2
          go_wp2_with fail
          go_ret2
          exact ⟨rfl, hK⟩
        by_cases d3 : c = 93
        · subst d3
          go_wp2_with fail
          go_ret2
          exact ⟨rfl, hK⟩
        have d4 : isSp c = true := by simpa [isDe, d1, d2, d3] using hd
        have e1 : (c != 44) = true := by simp [d1]
        have e2 : (c != 125) = true := by simp [d2]
        have e3 : (c != 93) = true := by simp [d3]
        go_wp2_with fail
        refine (isSpace_any c wr).mono ?_
        rintro _ w' ⟨rfl, e⟩
        rw [e, d4]
        clear e w'
        go_wp2_with fail
        go_ret2
        exact ⟨rfl, hK⟩
    · obtain rfl : k = j0 := by omega
      go_wp2_with fail
      go_ret2
      exact ⟨rfl, hK⟩
end Go.Proofs.YbulkcqsiFmt
