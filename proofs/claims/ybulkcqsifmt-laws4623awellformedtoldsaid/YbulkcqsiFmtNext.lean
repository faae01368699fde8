import Derived.Test.YbulkcqsiFmtVal
import Derived.Test.YbulkcqsiFmtScLaw
namespace Go.Proofs.YbulkcqsiFmt
set_option linter.unusedVariables false
set_option linter.unusedSimpArgs false
open Go.RowKit

/-- What the generator leans on: the bytes handed in lie below B0; the counter in block kb, the flag in block bb, its rows from base on. -/
structure St (oa : Option Addr) (n0 B0 kb bb base : Nat) (z : Nat → Int) (β : Bool) (w : World) : Prop where
  ops : ∀ i, i < n0 → ∃ b o, oa = some ⟨b, o, none⟩ ∧ b < B0 ∧ w.cell? ⟨b, o + i, none⟩ = some (.int .u8 (z i)) ∧ 0 ≤ z i ∧ z i < 256
  cnt : ∃ k : Nat, k ≤ n0 ∧ w.heap[kb]? = some (.cells #[.int .i64 k] 3)
  flag : w.heap[bb]? = some (.cells #[.bool β] 4)
  k0 : B0 ≤ kb
  k1 : kb < base
  b0 : B0 ≤ bb
  b1 : bb < base
  ne : kb ≠ bb
  size : base ≤ w.heap.size
  few : n0 ≤ 1024

section
variable {oa : Option Addr} {n0 B0 kb bb base : Nat} {z : Nat → Int} {β : Bool} {w w' : World}

theorem ops_kept {S : List Nat} (h : St oa n0 B0 kb bb base z β w) (k : Kept S w w') (hS : ∀ x ∈ S, B0 ≤ x) : ∀ i, i < n0 → ∃ b o, oa = some ⟨b, o, none⟩ ∧ b < B0 ∧ w'.cell? ⟨b, o + i, none⟩ = some (.int .u8 (z i)) ∧ 0 ≤ z i ∧ z i < 256 := fun i hi => by
  obtain ⟨b, o, e, hb, hc, r⟩ := h.ops i hi
  exact ⟨b, o, e, hb, k.cell hc (fun hx => by have := hS b hx; omega), r⟩

theorem St.kept {S : List Nat} (h : St oa n0 B0 kb bb base z β w) (k : Kept S w w') (hS : ∀ x ∈ S, base ≤ x) : St oa n0 B0 kb bb base z β w' := by
  have h1 := h.k0
  have h2 := h.k1
  have h3 := h.b1
  refine ⟨ops_kept h k (fun x hx => by have := hS x hx; omega), ?_, ?_, h.k0, h.k1, h.b0, h.b1, h.ne, Nat.le_trans h.size k.size, h.few⟩
  · obtain ⟨c, hc, hh⟩ := h.cnt
    exact ⟨c, hc, k.at hh (fun hx => by have := hS kb hx; omega)⟩
  · exact k.at h.flag (fun hx => by have := hS bb hx; omega)
end

set_option maxRecDepth 20000 in
theorem next_any {oa : Option Addr} {n0 B0 kb bb base : Nat} {z : Nat → Int} {β : Bool} (oc : Nat) (w : World) (h : St oa n0 B0 kb bb base z β w) :
    Calls Ybaf.prog 7 #[.slice oa n0 oc, .pointer (some ⟨kb, 0, none⟩)] w fun r w' => ∃ x : Int, r = .returned (.int .u8 x) ∧ 0 ≤ x ∧ x < 256 ∧ St oa n0 B0 kb bb base z β w' ∧ Kept [kb] w w' := by
  obtain ⟨k, hk, hkb⟩ := h.cnt
  have hf := h.few
  have c0 : w.cell? ⟨kb, 0, none⟩ = some (.int .i64 k) := cell_at hkb 0 rfl
  have f0 : w.frozen? ⟨kb, 0, none⟩ = false := frozen_at hkb 0
  by_cases hlt : k < n0
  · obtain ⟨b, o, rfl, hb, hc, hz0, hz1⟩ := h.ops k hlt
    go_enter Ybaf.func7, Ybaf.ntmps7
    go_wp2_with fail
    go_ret
    have K : Kept [kb] w (w.setCell ⟨kb, 0, none⟩ (.int .i64 ((k : Int) + 1))) := Kept.setCell _ _ _ (by simp)
    refine ⟨z k, rfl, hz0, hz1, ⟨ops_kept h K (by intro x hx; have := h.k0; simp at hx; omega), ⟨k + 1, hlt, ?_⟩, K.at h.flag (by have := h.ne; simp; omega), h.k0, h.k1, h.b0, h.b1, h.ne, Nat.le_trans h.size K.size, h.few⟩, K⟩
    have := set_at hkb 0 (.int .i64 ((k : Int) + 1))
    rw [this]
    simp
  · go_enter Ybaf.func7, Ybaf.ntmps7
    go_wp2_with fail
    go_ret
    exact ⟨0, rfl, by omega, by omega, h, Kept.refl _ _⟩
end Go.Proofs.YbulkcqsiFmt
