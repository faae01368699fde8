import Derived.Test.YbulkcqsiFmtScal
import Derived.WalkSpells
namespace Go.Proofs.YbulkcqsiFmt
set_option linter.unusedVariables false
set_option linter.unusedSimpArgs false
open Go.RowKit

def nums (s : ByteArray) : List Int := s.data.toList.map fun c => (c.toNat : Int)
theorem nums_length (s : ByteArray) : (nums s).length = s.size := by simp [nums]

theorem own_bytes {w : World} {base : Nat} {v : Value} {xs : List Int} {n : Nat} (h : w.ownsRow base 5 1 v n (bs xs)) (hn : n = xs.length) (h0 : 0 < xs.length) :
    ∃ g cap, v = .slice (some ⟨g, 0, none⟩) xs.length cap ∧ base ≤ g ∧ g < w.heap.size ∧ BytesAt g xs.length (fun j => xs.getD j 0) w := by
  subst hn
  obtain ⟨g, cap, rfl, hb, hl⟩ := h.form h0
  refine ⟨g, cap, rfl, hb, hl, fun j hj => ?_⟩
  have := h.cells (g := g) rfl j (.int .u8 (xs.getD j 0)) (by simp [bs, List.getD_eq_getElem?_getD, List.getElem?_eq_getElem hj])
  rw [Addr.add_lit, Nat.zero_add] at this
  exact this

theorem five (s : ByteArray) : s = ByteArray.empty ∨ (∃ h : 0 < s.size, ((s[0].toNat : Nat) : Int) = 34 ∧ ¬ s = ByteArray.empty) ∨ (∃ h : 0 < s.size, ((s[0].toNat : Nat) : Int) = 123 ∧ ¬ s = ByteArray.empty) ∨ (∃ h : 0 < s.size, ((s[0].toNat : Nat) : Int) = 91 ∧ ¬ s = ByteArray.empty) ∨
    (∃ h : 0 < s.size, ((s[0].toNat : Nat) : Int) ≠ 34 ∧ ((s[0].toNat : Nat) : Int) ≠ 123 ∧ ((s[0].toNat : Nat) : Int) ≠ 91 ∧ ¬ s = ByteArray.empty) := by
  by_cases he : s = ByteArray.empty
  · exact .inl he
  have hp : 0 < s.size := by
    rcases Nat.eq_zero_or_pos s.size with h | h
    · exfalso; apply he
      obtain ⟨d⟩ := s
      have : d = #[] := Array.eq_empty_of_size_eq_zero h
      subst this; rfl
    · exact h
  by_cases h1 : ((s[0].toNat : Nat) : Int) = 34
  · exact .inr (.inl ⟨hp, h1, he⟩)
  by_cases h2 : ((s[0].toNat : Nat) : Int) = 123
  · exact .inr (.inr (.inl ⟨hp, h2, he⟩))
  by_cases h3 : ((s[0].toNat : Nat) : Int) = 91
  · exact .inr (.inr (.inr (.inl ⟨hp, h3, he⟩)))
  exact .inr (.inr (.inr (.inr ⟨hp, h1, h2, h3, he⟩)))

theorem nums_zero (s : ByteArray) (h : 0 < s.size) : (nums s).getD 0 0 = ((s[0].toNat : Nat) : Int) := by
  have h' : 0 < s.data.size := h
  simp only [nums, List.getD_eq_getElem?_getD, List.getElem?_map, Array.getElem?_toList, Array.getElem?_eq_getElem h']
  rfl

set_option maxRecDepth 20000 in
set_option maxHeartbeats 2000000 in
theorem scalar_main (s : ByteArray) (w : World) (hs : s.size ≤ 1024) :
    Calls Ybaf.prog 4 #[.string s] w fun e w' => e = .returned (.bool true) ∧ Below w.heap.size w w' := by
  obtain ⟨i0, hi, hz0, hz1, hz2⟩ := info_parts Ybaf.info5
  have hlen := nums_length s
  go_enter Ybaf.func4, Ybaf.ntmps4
  go_wp2_with (at_make; refine wpList_make_own _ rfl (.const (.int .i64 0)) (.tmp 13) 22 (by rfl) w.heap.size 5 i0 (.int .u8 0) 1 Ybaf.underlying22 hi hz0 hz1 .i64 .i64 _ (s.size + 1) (by rfl) (by rfl) rfl (by rw [hz2]; omega) (by unfold maxLen; omega) (by omega) ?_)
  intro w1 h1 g1
  have z1 := g1.size
  have k1 : Below w.heap.size w w1 := (Kept.grown (S := []) g1 (by simp)).below (Nat.le_refl _) (by simp)
  have nz := nums_zero s
  rcases five s with hE | ⟨hp, h34, hE⟩ | ⟨hp, h34, hE⟩ | ⟨hp, h34, hE⟩ | ⟨hp, h34, h123, h91, hE⟩
  case' inl =>
    subst hE
    go_wp2_with (at_builtin; refine wpList_bytes rfl (.tmp 33) (.tmp 34) 22 (by rfl) w.heap.size i0 Ybaf.underlying22 hi hz0 hz1 hz2 _ 0 [] (by rfl) rfl (h1.alloc _) ⟨w1.heap.size, 0, none⟩ 1 1 [48] (by rfl) rfl (by omega) ?news (by omega) (by simp; omega) ?_)
    case news => exact World.news_of_block (cs := #[.int .u8 48]) (alloc_at _ _)
    intro v2 wA hA
    have z2 := hA.2.1.size
    have B1 : Below w.heap.size w wA := k1.trans (((Kept.alloc [] _ _).below z1 (by simp)).trans (hA.2.1.below (by simp; omega) (by simp [Value.ownBlock])))
    obtain ⟨ho, _, hA3, _⟩ := hA
    go_wp2_with (at_builtin; go_must (refine wpList_str rfl (.tmp 36) (.tmp 37) 22 9 (by rfl) w.heap.size i0 Ybaf.underlying22 Ybaf.underlying9 hi hz0 hz1 hz2 v2 _ [48] (by rfl) rfl ho ByteArray.empty (by rfl) (by simp) (by simp at z2; omega) ?_))
    intro v3 w2 hB
    have B2 : Below w.heap.size w w2 := B1.trans (hB.2.1.below (by have := B1.size; omega) (fun k hk => (ho.lt k (by simpa using hk)).1))
    obtain ⟨X, hX⟩ : ∃ X, X = [48] ++ nums ByteArray.empty := ⟨_, rfl⟩
    have hXl : X.length = 1 + ByteArray.empty.size := by rw [hX, List.length_append, hlen]; rfl
    have hXo : w2.ownsRow w.heap.size 5 1 v3 (1 + ByteArray.empty.size) (bs X) := by rw [hX]; have := hB.1; simpa [nums] using this
    obtain ⟨g, cap, rfl, hg, hgl, hx⟩ := own_bytes hXo hXl.symm (by omega)
    have h0 : X.getD 0 0 ≠ 34 ∧ X.getD 0 0 ≠ 123 ∧ X.getD 0 0 ≠ 91 := by rw [hX]; simp
    have hX1 : 0 < X.length ∧ X.length ≤ 1025 := by omega
    clear hX hXl hXo ho hA3 h1 g1 k1 hlen
  case' inr.inl =>
    go_wp2_with (at_builtin; refine wpList_bytes rfl (.tmp 33) (.tmp 34) 22 (by rfl) w.heap.size i0 Ybaf.underlying22 hi hz0 hz1 hz2 _ 0 [] (by rfl) rfl (h1.alloc _) ⟨w1.heap.size, 0, none⟩ 1 1 [48] (by rfl) rfl (by omega) ?news (by omega) (by simp; omega) ?_)
    case news => exact World.news_of_block (cs := #[.int .u8 48]) (alloc_at _ _)
    intro v2 wA hA
    have z2 := hA.2.1.size
    have B1 : Below w.heap.size w wA := k1.trans (((Kept.alloc [] _ _).below z1 (by simp)).trans (hA.2.1.below (by simp; omega) (by simp [Value.ownBlock])))
    obtain ⟨ho, _, hA3, _⟩ := hA
    go_wp2_with (at_builtin; go_must (refine wpList_str rfl (.tmp 36) (.tmp 37) 22 9 (by rfl) w.heap.size i0 Ybaf.underlying22 Ybaf.underlying9 hi hz0 hz1 hz2 v2 _ [48] (by rfl) rfl ho s (by rfl) (by simp; omega) (by simp at z2; omega) ?_))
    intro v3 w2 hB
    have B2 : Below w.heap.size w w2 := B1.trans (hB.2.1.below (by have := B1.size; omega) (fun k hk => (ho.lt k (by simpa using hk)).1))
    obtain ⟨X, hX⟩ : ∃ X, X = [48] ++ nums s := ⟨_, rfl⟩
    have hXl : X.length = 1 + s.size := by rw [hX, List.length_append, hlen]; rfl
    have hXo : w2.ownsRow w.heap.size 5 1 v3 (1 + s.size) (bs X) := by rw [hX]; have := hB.1; simpa [nums] using this
    obtain ⟨g, cap, rfl, hg, hgl, hx⟩ := own_bytes hXo hXl.symm (by omega)
    have h0 : X.getD 0 0 ≠ 34 ∧ X.getD 0 0 ≠ 123 ∧ X.getD 0 0 ≠ 91 := by rw [hX]; simp
    have hX1 : 0 < X.length ∧ X.length ≤ 1025 := by omega
    clear hX hXl hXo ho hA3 h1 g1 k1 hlen
  case' inr.inr.inl =>
    go_wp2_with (at_builtin; refine wpList_bytes rfl (.tmp 33) (.tmp 34) 22 (by rfl) w.heap.size i0 Ybaf.underlying22 hi hz0 hz1 hz2 _ 0 [] (by rfl) rfl (h1.alloc _) ⟨w1.heap.size, 0, none⟩ 1 1 [48] (by rfl) rfl (by omega) ?news (by omega) (by simp; omega) ?_)
    case news => exact World.news_of_block (cs := #[.int .u8 48]) (alloc_at _ _)
    intro v2 wA hA
    have z2 := hA.2.1.size
    have B1 : Below w.heap.size w wA := k1.trans (((Kept.alloc [] _ _).below z1 (by simp)).trans (hA.2.1.below (by simp; omega) (by simp [Value.ownBlock])))
    obtain ⟨ho, _, hA3, _⟩ := hA
    go_wp2_with (at_builtin; go_must (refine wpList_str rfl (.tmp 36) (.tmp 37) 22 9 (by rfl) w.heap.size i0 Ybaf.underlying22 Ybaf.underlying9 hi hz0 hz1 hz2 v2 _ [48] (by rfl) rfl ho s (by rfl) (by simp; omega) (by simp at z2; omega) ?_))
    intro v3 w2 hB
    have B2 : Below w.heap.size w w2 := B1.trans (hB.2.1.below (by have := B1.size; omega) (fun k hk => (ho.lt k (by simpa using hk)).1))
    obtain ⟨X, hX⟩ : ∃ X, X = [48] ++ nums s := ⟨_, rfl⟩
    have hXl : X.length = 1 + s.size := by rw [hX, List.length_append, hlen]; rfl
    have hXo : w2.ownsRow w.heap.size 5 1 v3 (1 + s.size) (bs X) := by rw [hX]; have := hB.1; simpa [nums] using this
    obtain ⟨g, cap, rfl, hg, hgl, hx⟩ := own_bytes hXo hXl.symm (by omega)
    have h0 : X.getD 0 0 ≠ 34 ∧ X.getD 0 0 ≠ 123 ∧ X.getD 0 0 ≠ 91 := by rw [hX]; simp
    have hX1 : 0 < X.length ∧ X.length ≤ 1025 := by omega
    clear hX hXl hXo ho hA3 h1 g1 k1 hlen
  case' inr.inr.inr.inl =>
    go_wp2_with (at_builtin; refine wpList_bytes rfl (.tmp 33) (.tmp 34) 22 (by rfl) w.heap.size i0 Ybaf.underlying22 hi hz0 hz1 hz2 _ 0 [] (by rfl) rfl (h1.alloc _) ⟨w1.heap.size, 0, none⟩ 1 1 [48] (by rfl) rfl (by omega) ?news (by omega) (by simp; omega) ?_)
    case news => exact World.news_of_block (cs := #[.int .u8 48]) (alloc_at _ _)
    intro v2 wA hA
    have z2 := hA.2.1.size
    have B1 : Below w.heap.size w wA := k1.trans (((Kept.alloc [] _ _).below z1 (by simp)).trans (hA.2.1.below (by simp; omega) (by simp [Value.ownBlock])))
    obtain ⟨ho, _, hA3, _⟩ := hA
    go_wp2_with (at_builtin; go_must (refine wpList_str rfl (.tmp 36) (.tmp 37) 22 9 (by rfl) w.heap.size i0 Ybaf.underlying22 Ybaf.underlying9 hi hz0 hz1 hz2 v2 _ [48] (by rfl) rfl ho s (by rfl) (by simp; omega) (by simp at z2; omega) ?_))
    intro v3 w2 hB
    have B2 : Below w.heap.size w w2 := B1.trans (hB.2.1.below (by have := B1.size; omega) (fun k hk => (ho.lt k (by simpa using hk)).1))
    obtain ⟨X, hX⟩ : ∃ X, X = [48] ++ nums s := ⟨_, rfl⟩
    have hXl : X.length = 1 + s.size := by rw [hX, List.length_append, hlen]; rfl
    have hXo : w2.ownsRow w.heap.size 5 1 v3 (1 + s.size) (bs X) := by rw [hX]; have := hB.1; simpa [nums] using this
    obtain ⟨g, cap, rfl, hg, hgl, hx⟩ := own_bytes hXo hXl.symm (by omega)
    have h0 : X.getD 0 0 ≠ 34 ∧ X.getD 0 0 ≠ 123 ∧ X.getD 0 0 ≠ 91 := by rw [hX]; simp
    have hX1 : 0 < X.length ∧ X.length ≤ 1025 := by omega
    clear hX hXl hXo ho hA3 h1 g1 k1 hlen
  case' inr.inr.inr.inr =>
    have q1 : (((s[0].toNat : Nat) : Int) == 34) = false := by simpa using h34
    have q2 : (((s[0].toNat : Nat) : Int) == 123) = false := by simpa using h123
    have q3 : (((s[0].toNat : Nat) : Int) == 91) = false := by simpa using h91
    have B1 := k1
    have ho := h1
    go_wp2_with (at_builtin; go_must (refine wpList_str rfl (.tmp 36) (.tmp 37) 22 9 (by rfl) w.heap.size i0 Ybaf.underlying22 Ybaf.underlying9 hi hz0 hz1 hz2 _ 0 [] (by rfl) rfl ho s (by rfl) (by simp; omega) (by omega) ?_))
    intro v3 w2 hB
    have B2 : Below w.heap.size w w2 := B1.trans (hB.2.1.below (by have := B1.size; omega) (fun k hk => (ho.lt k (by simpa using hk)).1))
    obtain ⟨X, hX⟩ : ∃ X, X = nums s := ⟨_, rfl⟩
    have hXl : X.length = s.size := by rw [hX]; exact hlen
    have hXo : w2.ownsRow w.heap.size 5 1 v3 s.size (bs X) := by rw [hX]; have := hB.1; simpa [nums] using this
    obtain ⟨g, cap, rfl, hg, hgl, hx⟩ := own_bytes hXo hXl.symm (by omega)
    have h0 : X.getD 0 0 ≠ 34 ∧ X.getD 0 0 ≠ 123 ∧ X.getD 0 0 ≠ 91 := by rw [hX, nz hp]; exact ⟨h34, h123, h91⟩
    have hX1 : 0 < X.length ∧ X.length ≤ 1025 := by omega
    clear hX hXl hXo ho h1 g1 k1 hlen
  all_goals
    clear nz hB
    try clear hE
    obtain ⟨x, hxe⟩ : ∃ x : Nat → Int, x = fun j => X.getD j 0 := ⟨_, rfl⟩
    rw [← hxe] at hx
    replace h0 : x 0 ≠ 34 ∧ x 0 ≠ 123 ∧ x 0 ≠ 91 := by rw [hxe]; exact h0
    clear hxe
    generalize X.length = n at *
    clear X
    go_wp2_with fail
    go_loop [4] (fun v => ∃ k : Nat, v = .int .i64 k ∧ k ≤ n ∧ ∀ i, i < k → isDe (x i) = false) (fun v => n - (intOf v).toNat)
    case atStart => exact ⟨0, rfl, Nat.zero_le _, fun i hi => by omega⟩
    case round =>
      obtain ⟨k, rfl, hkn, hno⟩ := hrel
      replace hno : Hid _ := hno
      by_cases hlt : k < n
      · have c0 := hx k hlt
        by_cases hd : isDe (x k) = true
        · have call := value_scalar g n cap 0 k x w2 hx (by omega) (by omega) h0.1 h0.2.1 h0.2.2 (Nat.zero_le _) hkn (fun i _ hi => hno.out i hi) (fun _ => hd)
          replace call : Hid _ := call
          simp only [isDe, isSp, Bool.or_eq_true, beq_iff_eq] at hd
          generalize x k = c at c0 hd
          rcases hd with ((rfl | rfl) | rfl) | (((rfl | rfl) | rfl) | rfl)
          all_goals
            go_wp2_with fail
            refine Calls.mono call.out ?_
            rintro _ w3 ⟨rfl, K3⟩
            go_wp2_with fail
            go_ret
            exact ⟨by simp, B2.trans (K3.below (by have := B2.size; omega) (by simp))⟩
        · have hd' := hd
          simp only [isDe, isSp, Bool.or_eq_true, beq_iff_eq, not_or] at hd
          obtain ⟨⟨⟨d1, d2⟩, d3⟩, ⟨⟨d4, d5⟩, d6⟩, d7⟩ := hd
          have hno' : Hid (∀ i, i < k + 1 → isDe (x i) = false) := fun i hi => if e : i = k then by rw [e]; simpa using hd' else hno.out i (by omega)
          clear hd' hno
          generalize x k = c at c0 d1 d2 d3 d4 d5 d6 d7
          have e1 : (c == 44) = false := by simpa using d1
          have e2 : (c == 125) = false := by simpa using d2
          have e3 : (c == 93) = false := by simpa using d3
          have e4 : (c == 32) = false := by simpa using d4
          have e5 : (c == 9) = false := by simpa using d5
          have e6 : (c == 10) = false := by simpa using d6
          have e7 : (c == 13) = false := by simpa using d7
          go_wp2_with fail
          go_round
          case rel => exact ⟨k + 1, by go_num, by omega, hno'.out⟩
          case measure => simp [intOf] <;> omega
      · obtain rfl : k = n := by omega
        have call := value_scalar g k cap 0 k x w2 hx (by omega) (by omega) h0.1 h0.2.1 h0.2.2 (Nat.zero_le _) hkn (fun i _ hi => hno.out i hi) (fun h => by omega)
        go_wp2_with fail
        refine Calls.mono call ?_
        rintro _ w3 ⟨rfl, K3⟩
        go_wp2_with fail
        go_ret
        exact ⟨by simp, B2.trans (K3.below (by have := B2.size; omega) (by simp))⟩
end Go.Proofs.YbulkcqsiFmt
