import Derived.Test.YbulkcqsiFmtNext
namespace Go.Proofs.YbulkcqsiFmt
set_option linter.unusedVariables false
set_option linter.unusedSimpArgs false
open Go.RowKit

def tabS (j : Nat) : ByteArray := [⟨#[34, 34]⟩, ⟨#[34, 97, 34]⟩, ⟨#[34, 97, 92, 34, 98, 125, 34]⟩, ⟨#[34, 92, 92, 34]⟩, ⟨#[34, 92, 92, 92, 34, 34]⟩, ⟨#[34, 92, 117, 48, 48, 52, 49, 93, 34]⟩, ⟨#[34, 92, 117, 100, 56, 51, 100, 92, 117, 100, 101, 48, 48, 34]⟩, ⟨#[34, 123, 91, 44, 92, 47, 32, 92, 110, 34]⟩, ⟨#[34, 92, 117, 100, 56, 48, 48, 34]⟩, ⟨#[34, 92, 117, 100, 99, 48, 48, 34]⟩, ⟨#[34, 92, 117, 100, 56, 51, 100, 92, 117, 48, 48, 52, 49, 34]⟩, ⟨#[34, 120, 92, 117, 100, 56, 51, 100, 92, 92, 34]⟩].getD j ⟨#[]⟩
def tabV : Array Value := #[.string ⟨#[34, 34]⟩, .string ⟨#[34, 97, 34]⟩, .string ⟨#[34, 97, 92, 34, 98, 125, 34]⟩, .string ⟨#[34, 92, 92, 34]⟩, .string ⟨#[34, 92, 92, 92, 34, 34]⟩, .string ⟨#[34, 92, 117, 48, 48, 52, 49, 93, 34]⟩, .string ⟨#[34, 92, 117, 100, 56, 51, 100, 92, 117, 100, 101, 48, 48, 34]⟩, .string ⟨#[34, 123, 91, 44, 92, 47, 32, 92, 110, 34]⟩, .string ⟨#[34, 92, 117, 100, 56, 48, 48, 34]⟩, .string ⟨#[34, 92, 117, 100, 99, 48, 48, 34]⟩, .string ⟨#[34, 92, 117, 100, 56, 51, 100, 92, 117, 48, 48, 52, 49, 34]⟩, .string ⟨#[34, 120, 92, 117, 100, 56, 51, 100, 92, 92, 34]⟩]
theorem tabV_at {j : Nat} (h : j < 12) : tabV[j]? = some (.string (tabS j)) ∧ nums (tabS j) = tab j ∧ (tabS j).size ≤ 14 := by
  rcases (show j = 0 ∨ j = 1 ∨ j = 2 ∨ j = 3 ∨ j = 4 ∨ j = 5 ∨ j = 6 ∨ j = 7 ∨ j = 8 ∨ j = 9 ∨ j = 10 ∨ j = 11 by omega) with rfl | rfl | rfl | rfl | rfl | rfl | rfl | rfl | rfl | rfl | rfl | rfl <;> exact ⟨rfl, rfl, by decide⟩

set_option maxRecDepth 20000 in
theorem gstr_any {oa : Option Addr} {n0 B0 kb bb base : Nat} {z : Nat → Int} {β : Bool} (oc : Nat) (v : Value) (xs : List Int) (w : World) (h : St oa n0 B0 kb bb base z β w)
    (ho : w.ownsRow base 5 1 v xs.length (bs xs)) (hx : xs.length ≤ 100000) :
    Calls Ybaf.prog 8 #[.slice oa n0 oc, .pointer (some ⟨kb, 0, none⟩), v, .pointer (some ⟨bb, 0, none⟩)] w fun r w' => ∃ v' j, r = .returned v' ∧ j < 12 ∧ w'.ownsRow base 5 1 v' (xs ++ tab j).length (bs (xs ++ tab j)) ∧ St oa n0 B0 kb bb base z (β || isBad j) w' ∧ Below B0 w w' := by
  obtain ⟨i0, hi, hz0, hz1, hz2⟩ := info_parts Ybaf.info5
  go_enter Ybaf.func8, Ybaf.ntmps8
  go_wp2_with fail
  have ht := alloc_at w (.cells tabV 37)
  have KA : Kept [] w (w.alloc (.cells tabV 37)) := Kept.alloc _ _ _
  have hA := h.kept KA (by simp)
  have oA := KA.owns ho (by simp)
  refine Calls.mono (show Calls Ybaf.prog 7 _ (w.alloc (.cells tabV 37)) _ from next_any oc (w.alloc (.cells tabV 37)) hA) ?_
  rintro _ w2 ⟨x, rfl, x0, x1, h2, K2⟩
  have hs := h.size
  have hk1 := h.k1
  have hb1 := h.b1
  have t2 : w2.heap[w.heap.size]? = some (.cells tabV 37) := K2.at ht (by simp; omega)
  have o2 := K2.owns oA (fun k hk => by have := (oA.lt k hk).1; simp; omega)
  have B2 : Below B0 w w2 := (KA.below (by have := h.k0; omega) (by simp)).trans (K2.below (by have := h.k0; simp; omega) (by have := h.k0; simp; omega))
  have hz2' := h2.size
  generalize w.heap.size = N at *
  clear hA oA KA K2 ht
  generalize w.alloc (.cells tabV 37) = wA at *
  obtain ⟨j, hj, hj12⟩ : ∃ j : Nat, (x % 12).toNat = j ∧ j < 12 := ⟨_, rfl, by omega⟩
  obtain ⟨e1, e2, e3⟩ := tabV_at hj12
  have c2 : w2.cell? ⟨N, j, none⟩ = some (.string (tabS j)) := cell_at t2 _ e1
  have f0 : w2.cell? ⟨bb, 0, none⟩ = some (.bool β) := cell_at h2.flag 0 rfl
  have f1 : w2.frozen? ⟨bb, 0, none⟩ = false := frozen_at h2.flag 0
  clear t2 e1
  have hfin : ∀ (w3 : World) (β' : Bool), St oa n0 B0 kb bb base z β' w3 → Below B0 w w3 → w3.ownsRow base 5 1 v xs.length (bs xs) → β' = (β || isBad j) → ∀ v4 w4, Appended base v xs ((tabS j).data.toList.map fun c => (c.toNat : Int)) w3 v4 w4 →
      w4.ownsRow base 5 1 v4 (xs ++ tab j).length (bs (xs ++ tab j)) ∧ St oa n0 B0 kb bb base z (β || isBad j) w4 ∧ Below B0 w w4 := by
    intro w3 β' s3 b3 o3 hβ v4 w4 hA
    have hlo : ∀ x ∈ v.ownBlock.toList, base ≤ x := fun x hx => (o3.lt x (by simpa using hx)).1
    have hB0 : B0 ≤ base := by have := s3.k0; have := s3.k1; omega
    obtain ⟨a1, a2, _, _⟩ := hA
    have e2' : ((tabS j).data.toList.map fun c => (c.toNat : Int)) = tab j := e2
    rw [e2'] at a1
    refine ⟨by rw [List.length_append]; exact a1, hβ ▸ s3.kept a2 hlo, b3.trans (a2.below (by have := s3.size; omega) (fun x hx => Nat.le_trans hB0 (hlo x hx)))⟩
  replace hfin : Hid _ := hfin
  have hl : xs.length + (tabS j).size ≤ 200000 := by omega
  by_cases hbad : 8 ≤ x % 12
  · have KS : Kept [bb] w2 (w2.setCell ⟨bb, 0, none⟩ (.bool true)) := Kept.setCell _ _ _ (by simp)
    have c3 : (w2.setCell ⟨bb, 0, none⟩ (.bool true)).cell? ⟨N, j, none⟩ = some (.string (tabS j)) := KS.cell c2 (by simp; omega)
    have o3 := KS.owns o2 (fun k hk => by have := (o2.lt k hk).1; simp; omega)
    have s3 : St oa n0 B0 kb bb base z true (w2.setCell ⟨bb, 0, none⟩ (.bool true)) := by
      refine ⟨ops_kept h2 KS (by have := h2.b0; simp; omega), ?_, ?_, h2.k0, h2.k1, h2.b0, h2.b1, h2.ne, Nat.le_trans h2.size KS.size, h2.few⟩
      · obtain ⟨c, hc, hh⟩ := h2.cnt
        exact ⟨c, hc, KS.at hh (by have := h2.ne; simp; omega)⟩
      · have := set_at h2.flag 0 (.bool true)
        rw [this]; simp
    have b3 : Below B0 w (w2.setCell ⟨bb, 0, none⟩ (.bool true)) := B2.trans (KS.below (by have := h2.k0; omega) (by have := h2.b0; simp; omega))
    have hβ : Hid (true = (β || isBad j)) := by
      have : isBad j = true := by simp [isBad]; omega
      show true = _
      rw [this]; simp
    have hsz := s3.size
    go_wp2_with (at_builtin; go_must (refine wpList_str rfl (.tmp 21) (.tmp 24) 22 9 (by rfl) base i0 Ybaf.underlying22 Ybaf.underlying9 hi hz0 hz1 hz2 v _ xs (by rfl) rfl o3 (tabS j) (by rfl) (by omega) hsz ?_))
    intro v4 w4 hA
    obtain ⟨r1, r2, r3⟩ := hfin.out _ _ s3 b3 o3 hβ.out v4 w4 hA
    clear hA hfin
    go_wp2_with fail
    go_ret
    exact ⟨v4, j, rfl, hj12, r1, r2, r3⟩
  · have hβ : Hid (β = (β || isBad j)) := by
      have : isBad j = false := by simp [isBad]; omega
      show β = _
      rw [this]; simp
    go_wp2_with (at_builtin; go_must (refine wpList_str rfl (.tmp 21) (.tmp 24) 22 9 (by rfl) base i0 Ybaf.underlying22 Ybaf.underlying9 hi hz0 hz1 hz2 v _ xs (by rfl) rfl o2 (tabS j) (by rfl) (by omega) hz2' ?_))
    intro v4 w4 hA
    obtain ⟨r1, r2, r3⟩ := hfin.out _ _ h2 B2 o2 hβ.out v4 w4 hA
    clear hA hfin
    go_wp2_with fail
    go_ret
    exact ⟨v4, j, rfl, hj12, r1, r2, r3⟩
end Go.Proofs.YbulkcqsiFmt
