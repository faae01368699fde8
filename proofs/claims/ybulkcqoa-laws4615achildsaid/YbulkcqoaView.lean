import Derived.Test.YbulkcqoaSet
namespace Go.Proofs.Ybulkcqoa
set_option linter.unusedVariables false
set_option linter.unusedSimpArgs false
open Go.Maps

/-- A string as a key. -/
def ky (s : ByteArray) : Lit := .string s.data.toList
theorem ky_inj {s t : ByteArray} : ky s = ky t ↔ s = t := by
  constructor
  · intro h
    unfold ky at h
    injection h with h
    cases s; cases t
    congr 1
    exact Array.toList_inj.1 h
  · rintro rfl; rfl
theorem ky_key (s : ByteArray) : WideAt.IsKeyLit (ky s) := by simp [WideAt.IsKeyLit, ky]

/-- The map behind j sets. -/
def Dn (p : Nat → ByteArray) (e : Nat → Nat) : Nat → DataW Nat
  | 0 => .map []
  | j + 1 => (Dn p e j).put (ky (p j)) (.held (e j))

theorem Dn_congr {p : Nat → ByteArray} {e e' : Nat → Nat} : ∀ j, (∀ i, i < j → e i = e' i) → Dn p e j = Dn p e' j
  | 0, _ => rfl
  | j + 1, h => by
    show (Dn p e j).put _ _ = (Dn p e' j).put _ _
    rw [Dn_congr j (fun i hi => h i (by omega)), h j (by omega)]

theorem Dn_map (p : Nat → ByteArray) (e : Nat → Nat) : ∀ j, IsMap (Dn p e j)
  | 0 => isMap_empty
  | j + 1 => (Dn_map p e j).put _ _

/-- The key has been set before j. -/
def Was (p : Nat → ByteArray) (j : Nat) (k : ByteArray) : Prop := ∃ i, i < j ∧ p i = k

theorem has_Dn (p : Nat → ByteArray) (e : Nat → Nat) (k : ByteArray) : ∀ j, has (Dn p e j) (ky k) = true ↔ Was p j k
  | 0 => by simp [Dn, has, Was]
  | j + 1 => by
    show has ((Dn p e j).put _ _) _ = true ↔ _
    by_cases h : p j = k
    · subst h
      rw [has_put_same (Dn_map p e j) (ky_key _)]
      exact ⟨fun _ => ⟨j, by omega, rfl⟩, fun _ => rfl⟩
    · rw [has_put_other (fun h' => h (ky_inj.1 h').symm), has_Dn p e k j]
      constructor
      · rintro ⟨i, hi, rfl⟩; exact ⟨i, by omega, rfl⟩
      · rintro ⟨i, hi, rfl⟩
        refine ⟨i, ?_, rfl⟩
        rcases Nat.lt_or_ge i j with h1 | h1
        · exact h1
        · obtain rfl : i = j := by omega
          exact absurd rfl h

theorem at_Dn (p : Nat → ByteArray) (e : Nat → Nat) (i : Nat) : ∀ j, i < j → (∀ i', i < i' → i' < j → p i' ≠ p i) → (Dn p e j).atKey (ky (p i)) .nil = .held (e i)
  | 0, h, _ => by omega
  | j + 1, h, hl => by
    show ((Dn p e j).put _ _).atKey _ _ = _
    by_cases hij : i = j
    · subst hij
      rw [atKey_put_same (Dn_map p e i) (ky_key _)]
    · rw [atKey_put_other (fun h' => hl j (by omega) (by omega) (ky_inj.1 h').symm)]
      exact at_Dn p e i j (by omega) (fun i' h1 h2 => hl i' h1 (by omega))

theorem Dn_tidy (p : Nat → ByteArray) (e : Nat → Nat) : ∀ j, Tidy (Dn p e j)
  | 0 => tidy_empty
  | j + 1 => (Dn_tidy p e j).put (ky_key _) _

def was (p : Nat → ByteArray) : Nat → ByteArray → Bool
  | 0, _ => false
  | j + 1, k => decide (p j = k) || was p j k
theorem was_iff (p : Nat → ByteArray) (k : ByteArray) : ∀ j, was p j k = true ↔ Was p j k
  | 0 => by simp [was, Was]
  | j + 1 => by
    simp only [was, Bool.or_eq_true, decide_eq_true_eq, was_iff p k j]
    constructor
    · rintro (h | ⟨i, hi, h⟩)
      · exact ⟨j, by omega, h⟩
      · exact ⟨i, by omega, h⟩
    · rintro ⟨i, hi, h⟩
      by_cases hij : i = j
      · subst hij; exact .inl h
      · exact .inr ⟨i, by omega, h⟩
theorem has_was (p : Nat → ByteArray) (e : Nat → Nat) (k : ByteArray) (j : Nat) : has (Dn p e j) (ky k) = was p j k := by
  rw [Bool.eq_iff_iff, has_Dn, was_iff]

/-- First occurrences. -/
def cntF (p : Nat → ByteArray) : Nat → Nat
  | 0 => 0
  | j + 1 => cntF p j + (if was p j (p j) then 0 else 1)
/-- First occurrences of others than key. -/
def cntK (p : Nat → ByteArray) (key : ByteArray) : Nat → Nat
  | 0 => 0
  | j + 1 => cntK p key j + (if p j = key then 0 else if was p j (p j) then 0 else 1)
theorem cnt_eq (p : Nat → ByteArray) (key : ByteArray) : ∀ j, cntF p j = cntK p key j + (if was p j key then 1 else 0)
  | 0 => rfl
  | j + 1 => by
    simp only [cntF, cntK, was]
    rw [cnt_eq p key j]
    by_cases h : p j = key
    · subst h
      by_cases h2 : was p j (p j) = true <;> simp [h2]
    · by_cases h2 : was p j (p j) = true <;> by_cases h3 : was p j key = true <;> simp [h, h2, h3] <;> omega
theorem size_Dn (p : Nat → ByteArray) (e : Nat → Nat) : ∀ j, size (Dn p e j) = cntF p j
  | 0 => rfl
  | j + 1 => by
    show size ((Dn p e j).put _ _) = _
    rw [size_put (Dn_tidy p e j), has_was, size_Dn p e j]
    simp only [cntF]
    split <;> rfl
theorem size_last (p : Nat → ByteArray) (e : Nat → Nat) (key : ByteArray) (c : Nat) (n : Nat) : size ((Dn p e n).put (ky key) (.held c)) = cntK p key n + 1 := by
  rw [size_put (Dn_tidy p e n), has_was, size_Dn, cnt_eq p key]
  split <;> simp_all
theorem at_last (p : Nat → ByteArray) (e : Nat → Nat) (key : ByteArray) (c n i : Nat) (hi : i < n) (hl : ∀ i', i < i' → i' < n → p i' ≠ p i) (hk : p i ≠ key) : ((Dn p e n).put (ky key) (.held c)).atKey (ky (p i)) .nil = .held (e i) := by
  rw [atKey_put_other (fun h => hk (ky_inj.1 h))]
  exact at_Dn p e i n hi hl
theorem at_key (p : Nat → ByteArray) (e : Nat → Nat) (key : ByteArray) (c n : Nat) : ((Dn p e n).put (ky key) (.held c)).atKey (ky key) .nil = .held c := atKey_put_same (Dn_map p e n) (ky_key _) _ _
theorem has_key (p : Nat → ByteArray) (e : Nat → Nat) (key : ByteArray) (c n : Nat) : has ((Dn p e n).put (ky key) (.held c)) (ky key) = true := has_put_same (Dn_map p e n) (ky_key _) _
end Go.Proofs.Ybulkcqoa
