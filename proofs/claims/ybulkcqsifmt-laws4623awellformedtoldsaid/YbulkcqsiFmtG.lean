import Derived.Test.YbulkcqsiFmtGstr
namespace Go.Proofs.YbulkcqsiFmt
set_option linter.unusedVariables false
set_option linter.unusedSimpArgs false
open Go.RowKit

/-- The table's numbers and words. -/
def scT (k : Nat) : List Nat := [[60], [57, 61, 62], [63, 58, 65, 113, 55, 67], [128, 126, 129, 113], [114, 109, 120, 127, 113], [122, 129, 120, 120]].getD k []
def scS (k : Nat) : ByteArray := [⟨#[48]⟩, ⟨#[45, 49, 50]⟩, ⟨#[51, 46, 53, 101, 43, 55]⟩, ⟨#[116, 114, 117, 101]⟩, ⟨#[102, 97, 108, 115, 101]⟩, ⟨#[110, 117, 108, 108]⟩].getD k ⟨#[]⟩
def scV : Array Value := #[.string ⟨#[48]⟩, .string ⟨#[45, 49, 50]⟩, .string ⟨#[51, 46, 53, 101, 43, 55]⟩, .string ⟨#[116, 114, 117, 101]⟩, .string ⟨#[102, 97, 108, 115, 101]⟩, .string ⟨#[110, 117, 108, 108]⟩]

theorem scV_at {k : Nat} (h : k < 6) : scV[k]? = some (.string (scS k)) ∧ nums (scS k) = byts (scT k) ∧ (scS k).size ≤ 6 ∧ hasBad (scT k) = false := by
  rcases (show k = 0 ∨ k = 1 ∨ k = 2 ∨ k = 3 ∨ k = 4 ∨ k = 5 by omega) with rfl | rfl | rfl | rfl | rfl | rfl <;> exact ⟨rfl, rfl, by decide, rfl⟩
theorem scT_plain {k : Nat} (h : k < 6) : ∀ t ∈ scT k, isOp t = false ∧ isCl t = false ∧ t < 268 ∧ t ≠ 46 := by
  rcases (show k = 0 ∨ k = 1 ∨ k = 2 ∨ k = 3 ∨ k = 4 ∨ k = 5 by omega) with rfl | rfl | rfl | rfl | rfl | rfl <;> decide
theorem scT_head {k : Nat} (h : k < 6) : 0 < (byts (scT k)).length ∧ (byts (scT k)).length ≤ 6 ∧ ((byts (scT k)).getD 0 0 ≠ 34 ∧ (byts (scT k)).getD 0 0 ≠ 123 ∧ (byts (scT k)).getD 0 0 ≠ 91) ∧ ∀ m, m < (byts (scT k)).length → isDe ((byts (scT k)).getD m 0) = false := by
  rcases (show k = 0 ∨ k = 1 ∨ k = 2 ∨ k = 3 ∨ k = 4 ∨ k = 5 by omega) with rfl | rfl | rfl | rfl | rfl | rfl <;> decide

def LB : Nat → Nat
  | 0 => 14
  | e + 1 => 3 * LB e + 60
theorem LB_ge : ∀ e, 14 ≤ LB e
  | 0 => Nat.le_refl _
  | e + 1 => by have := LB_ge e; simp only [LB]; omega

def Shape (T : List Nat) : Prop := (∃ k, k < 6 ∧ T = scT k) ∨ (∃ j, j < 12 ∧ T = [j]) ∨ (∃ o T', T = o :: T' ∧ isOp o = true ∧ fin 0 T)
structure Good (T : List Nat) (e : Nat) : Prop where
  bal : Bal T
  shape : Shape T
  ok : ∀ t ∈ T, okT t
  len : (byts T).length ≤ LB e

theorem Good.scal {k : Nat} (h : k < 6) (e : Nat) : Good (scT k) e :=
  ⟨Bal.list fun t ht => ⟨(scT_plain h t ht).1, (scT_plain h t ht).2.1⟩, .inl ⟨k, h, rfl⟩, fun t ht => (scT_plain h t ht).2.2, by have := (scT_head h).2.1; have := LB_ge e; omega⟩
theorem byts_one {j : Nat} (h : j < 12) : byts [j] = tab j := by
  show tb j ++ [] = _
  rw [List.append_nil]; exact if_pos h
theorem plain_str {j : Nat} (h : j < 12) : isOp j = false ∧ isCl j = false := ⟨by simp [isOp]; omega, by simp [isCl]; omega⟩
theorem Good.str {j : Nat} (h : j < 12) (e : Nat) : Good [j] e :=
  ⟨Bal.one (plain_str h).1 (plain_str h).2, .inr (.inl ⟨j, h, rfl⟩), fun t ht => by simp at ht; subst ht; exact ⟨by omega, by omega⟩, by rw [byts_one h]; have := (tab_pos h).2.1; have := LB_ge e; omega⟩

structure G (oa : Option Addr) (n0 B0 kb bb base : Nat) (z : Nat → Int) (β : Bool) (xs : List Int) (w0 : World) (P : List Nat) (v : Value) (w : World) : Prop where
  own : w.ownsRow base 5 1 v (xs ++ byts P).length (bs (xs ++ byts P))
  st : St oa n0 B0 kb bb base z (β || hasBad P) w
  below : Below B0 w0 w

section
variable {oa : Option Addr} {n0 B0 kb bb base : Nat} {z : Nat → Int} {β : Bool} {xs : List Int} {w0 w w' : World} {P Q : List Nat} {v v' : Value}

theorem G.lo (h : G oa n0 B0 kb bb base z β xs w0 P v w) : ∀ x ∈ v.ownBlock.toList, base ≤ x := fun x hx => (h.own.lt x (by simpa using hx)).1
theorem G.B0b (h : G oa n0 B0 kb bb base z β xs w0 P v w) : B0 ≤ base := by have := h.st.k0; have := h.st.k1; omega

theorem G.app (h : G oa n0 B0 kb bb base z β xs w0 P v w) (hA : Appended base v (xs ++ byts P) (byts Q) w v' w') (hQ : hasBad Q = false) : G oa n0 B0 kb bb base z β xs w0 (P ++ Q) v' w' := by
  obtain ⟨a1, a2, _, _⟩ := hA
  have hlo := h.lo
  have hB := h.B0b
  refine ⟨?_, ?_, h.below.trans (a2.below (by have := h.st.size; omega) (fun x hx => Nat.le_trans hB (hlo x hx)))⟩
  · have e : ((xs ++ byts P) ++ byts Q).length = (xs ++ byts P).length + (byts Q).length := List.length_append
    rw [byts_append, ← List.append_assoc, e]; exact a1
  · rw [hasBad_append, hQ, Bool.or_false]; exact h.st.kept a2 hlo

theorem G.alloc (h : G oa n0 B0 kb bb base z β xs w0 P v w) (o : Obj) : G oa n0 B0 kb bb base z β xs w0 P v (w.alloc o) :=
  ⟨h.own.alloc _, h.st.kept (Kept.alloc [] _ _) (by simp), h.below.trans ((Kept.alloc [] _ _).below (by have := h.st.size; have := h.B0b; omega) (by simp))⟩

theorem G.next (h : G oa n0 B0 kb bb base z β xs w0 P v w) (s : St oa n0 B0 kb bb base z (β || hasBad P) w') (k : Kept [kb] w w') : G oa n0 B0 kb bb base z β xs w0 P v w' :=
  ⟨k.owns h.own (fun x hx => by have := (h.own.lt x hx).1; have := s.k1; simp; omega), s, h.below.trans (k.below (by have := h.st.size; have := h.B0b; omega) (by have := s.k0; simp; omega))⟩

theorem G.start (h : G oa n0 B0 kb bb base z β xs w0 P v w) : G oa n0 B0 kb bb base z (β || hasBad P) (xs ++ byts P) w [] v w :=
  ⟨by simpa [byts] using h.own, by simpa [hasBad] using h.st, Below.refl _ _⟩

theorem G.comp (h : G oa n0 B0 kb bb base z β xs w0 P v w) (k : G oa n0 B0 kb bb base z (β || hasBad P) (xs ++ byts P) w Q v' w') : G oa n0 B0 kb bb base z β xs w0 (P ++ Q) v' w' :=
  ⟨by rw [byts_append, ← List.append_assoc]; exact k.own, by rw [hasBad_append, ← Bool.or_assoc]; exact k.st, h.below.trans k.below⟩

theorem gstr_G (oc : Nat) (h : G oa n0 B0 kb bb base z β xs w0 P v w) (hx : (xs ++ byts P).length ≤ 100000) :
    Calls Ybaf.prog 8 #[.slice oa n0 oc, .pointer (some ⟨kb, 0, none⟩), v, .pointer (some ⟨bb, 0, none⟩)] w fun r w' => ∃ v' j, r = .returned v' ∧ j < 12 ∧ G oa n0 B0 kb bb base z β xs w0 (P ++ [j]) v' w' :=
  (gstr_any oc v (xs ++ byts P) w h.st h.own hx).mono fun r w' ⟨v', j, hr, hj, h1, h2, h3⟩ => ⟨v', j, hr, hj, by
    refine ⟨by rw [byts_append, ← List.append_assoc, byts_one hj]; exact h1, ?_, h.below.trans h3⟩
    rw [hasBad_append, ← Bool.or_assoc]
    have : hasBad [j] = isBad j := by simp [hasBad]
    rw [this]; exact h2⟩
end
end Go.Proofs.YbulkcqsiFmt
