import Derived.Test.YbulkcqsiFmtStr
namespace Go.Proofs.YbulkcqsiFmt
set_option linter.unusedVariables false
set_option linter.unusedSimpArgs false
open Go.RowKit Go.Extern.Stop Go.Stop Go.Extern

/-- The table's strings. -/
def tab (j : Nat) : List Int :=
  [[34, 34], [34, 97, 34], [34, 97, 92, 34, 98, 125, 34], [34, 92, 92, 34], [34, 92, 92, 92, 34, 34], [34, 92, 117, 48, 48, 52, 49, 93, 34], [34, 92, 117, 100, 56, 51, 100, 92, 117, 100, 101, 48, 48, 34], [34, 123, 91, 44, 92, 47, 32, 92, 110, 34],
   [34, 92, 117, 100, 56, 48, 48, 34], [34, 92, 117, 100, 99, 48, 48, 34], [34, 92, 117, 100, 56, 51, 100, 92, 117, 48, 48, 52, 49, 34], [34, 120, 92, 117, 100, 56, 51, 100, 92, 92, 34]].getD j []

/-- A token: t below 12: a string of the table; else the byte t - 12. -/
def tb (t : Nat) : List Int := if t < 12 then tab t else [((t - 12 : Nat) : Int)]
def byts : List Nat → List Int
  | [] => []
  | t :: T => tb t ++ byts T
def isOp (t : Nat) : Bool := t == 135 || t == 103
def isCl (t : Nat) : Bool := t == 137 || t == 105
def okT (t : Nat) : Prop := t < 268 ∧ t ≠ 46
def isBad (t : Nat) : Bool := decide (8 ≤ t) && decide (t < 12)
def hasBad (T : List Nat) : Bool := T.any isBad

/-- The scan from depth D ends with the last token. -/
def fin : Nat → List Nat → Prop
  | D, [] => False
  | D, t :: T => if isOp t then fin (D + 1) T else if isCl t then ((D = 1 ∧ T = []) ∨ (2 ≤ D ∧ fin (D - 1) T)) else fin D T
def Bal (T : List Nat) : Prop := ∀ D R, 1 ≤ D → fin D R → fin D (T ++ R)

theorem byts_append (A B : List Nat) : byts (A ++ B) = byts A ++ byts B := by
  induction A with
  | nil => rfl
  | cons t A ih => simp [byts, ih]
theorem hasBad_append (A B : List Nat) : hasBad (A ++ B) = (hasBad A || hasBad B) := by simp [hasBad]
theorem Bal.nil : Bal [] := fun _ _ _ h => h
theorem Bal.append {A B : List Nat} (ha : Bal A) (hb : Bal B) : Bal (A ++ B) := fun D R hD h => by
  rw [List.append_assoc]; exact ha D _ hD (hb D R hD h)
theorem Bal.one {t : Nat} (h1 : isOp t = false) (h2 : isCl t = false) : Bal [t] := fun D R hD h => by
  show fin D (t :: R)
  rw [fin, h1, h2]; exact h
theorem Bal.list {T : List Nat} (h : ∀ t ∈ T, isOp t = false ∧ isCl t = false) : Bal T := by
  induction T with
  | nil => exact Bal.nil
  | cons t T ih =>
    have := (Bal.one (h t (by simp)).1 (h t (by simp)).2).append (ih fun x hx => h x (by simp [hx]))
    simpa using this
theorem Bal.wrap {o c : Nat} {S : List Nat} (ho : isOp o = true) (hc0 : isOp c = false) (hc : isCl c = true) (hS : Bal S) : Bal (o :: (S ++ [c])) := fun D R hD h => by
  show fin D (o :: ((S ++ [c]) ++ R))
  rw [fin, if_pos ho, List.append_assoc]
  refine hS (D + 1) _ (by omega) ?_
  show fin (D + 1) (c :: R)
  rw [fin, hc0, hc]
  exact .inr ⟨by omega, by simpa using h⟩
theorem fin.wrap {o c : Nat} {S : List Nat} (ho : isOp o = true) (hc0 : isOp c = false) (hc : isCl c = true) (hS : Bal S) : fin 0 (o :: (S ++ [c])) := by
  rw [fin, if_pos ho]
  refine hS 1 _ (by omega) ?_
  show fin 1 [c]
  rw [fin, hc0, hc]
  exact .inl ⟨rfl, rfl⟩

theorem tab_pos {t : Nat} (h : t < 12) : 2 ≤ (tab t).length ∧ (tab t).length ≤ 14 ∧ (tab t).getD 0 0 = 34 := by
  rcases (show t = 0 ∨ t = 1 ∨ t = 2 ∨ t = 3 ∨ t = 4 ∨ t = 5 ∨ t = 6 ∨ t = 7 ∨ t = 8 ∨ t = 9 ∨ t = 10 ∨ t = 11 by omega) with rfl | rfl | rfl | rfl | rfl | rfl | rfl | rfl | rfl | rfl | rfl | rfl <;> decide

theorem StrAt.left {g i : Nat} {A B : List Int} {w : World} (h : StrAt g i (A ++ B) w) : StrAt g i A w := fun m hm => by
  rw [h m (by simp; omega), List.getD_eq_getElem?_getD, List.getD_eq_getElem?_getD, List.getElem?_append_left hm]
theorem StrAt.right {g i : Nat} {A B : List Int} {w : World} (h : StrAt g i (A ++ B) w) : StrAt g (i + A.length) B w := fun m hm => by
  have := h (A.length + m) (by simp; omega)
  rw [← Nat.add_assoc] at this
  rw [this, List.getD_eq_getElem?_getD, List.getD_eq_getElem?_getD, List.getElem?_append_right (by omega), Nat.add_sub_cancel_left]
theorem StrAt.kept {S : List Nat} {g i : Nat} {l : List Int} {w w' : World} (h : StrAt g i l w) (k : Kept S w w') (hg : g ∉ S) : StrAt g i l w' := fun m hm => k.cell (h m hm) hg

/-- What valueEnd and stringEnd answer. -/
def Ends (bad : Bool) (e : Nat) (r : Ending) : Prop := (bad = false ∧ r = .returned (.tuple #[.int .i64 e, .nilIface])) ∨ (bad = true ∧ ∃ p, r = .returned (.tuple #[.int .i64 0, .iface 50 (.pointer (some p))]))

theorem str_any (F : Interp) (t : Nat) (ht : t < 12) (g i n cap : Nat) (w : World) (hF : F.answers w.tape) (hs : StrAt g i (tab t) w) (hn : i + (tab t).length ≤ n) (hb : n ≤ 1000000) (hc : n ≤ cap) :
    Calls Ybaf.prog 9 #[.slice (some ⟨g, 0, none⟩) n cap, .int .i64 i] w fun r w' => Ends (isBad t) (i + (tab t).length) r ∧ Kept [] w w' := by
  rcases (show t = 0 ∨ t = 1 ∨ t = 2 ∨ t = 3 ∨ t = 4 ∨ t = 5 ∨ t = 6 ∨ t = 7 ∨ t = 8 ∨ t = 9 ∨ t = 10 ∨ t = 11 by omega) with rfl | rfl | rfl | rfl | rfl | rfl | rfl | rfl | rfl | rfl | rfl | rfl
  · exact (str0 F g i n cap w hF hs hn hb hc).mono fun r w' h => ⟨.inl ⟨rfl, h.1⟩, h.2⟩
  · exact (str1 F g i n cap w hF hs hn hb hc).mono fun r w' h => ⟨.inl ⟨rfl, h.1⟩, h.2⟩
  · exact (str2 F g i n cap w hF hs hn hb hc).mono fun r w' h => ⟨.inl ⟨rfl, h.1⟩, h.2⟩
  · exact (str3 F g i n cap w hF hs hn hb hc).mono fun r w' h => ⟨.inl ⟨rfl, h.1⟩, h.2⟩
  · exact (str4 F g i n cap w hF hs hn hb hc).mono fun r w' h => ⟨.inl ⟨rfl, h.1⟩, h.2⟩
  · exact (str5 F g i n cap w hF hs hn hb hc).mono fun r w' h => ⟨.inl ⟨rfl, h.1⟩, h.2⟩
  · exact (str6 F g i n cap w hF hs hn hb hc).mono fun r w' h => ⟨.inl ⟨rfl, h.1⟩, h.2⟩
  · exact (str7 F g i n cap w hF hs hn hb hc).mono fun r w' h => ⟨.inl ⟨rfl, h.1⟩, h.2⟩
  · exact (str8 F g i n cap w hF hs hn hb hc).mono fun r w' h => ⟨.inr ⟨rfl, h.1⟩, h.2⟩
  · exact (str9 F g i n cap w hF hs hn hb hc).mono fun r w' h => ⟨.inr ⟨rfl, h.1⟩, h.2⟩
  · exact (str10 F g i n cap w hF hs hn hb hc).mono fun r w' h => ⟨.inr ⟨rfl, h.1⟩, h.2⟩
  · exact (str11 F g i n cap w hF hs hn hb hc).mono fun r w' h => ⟨.inr ⟨rfl, h.1⟩, h.2⟩
end Go.Proofs.YbulkcqsiFmt
