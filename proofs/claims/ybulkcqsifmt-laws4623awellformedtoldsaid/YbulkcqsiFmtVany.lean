import Derived.Test.YbulkcqsiFmtGen
namespace Go.Proofs.YbulkcqsiFmt
set_option linter.unusedVariables false
set_option linter.unusedSimpArgs false
open Go.RowKit Go.Extern.Stop Go.Stop Go.Extern

theorem Good.pos {T : List Nat} {e : Nat} (h : Good T e) : 0 < (byts T).length := by
  rcases h.shape with ⟨k, hk, rfl⟩ | ⟨j, hj, rfl⟩ | ⟨o, T', rfl, ho, _⟩
  · exact (scT_head hk).1
  · rw [byts_one hj]; have := (tab_pos hj).1; omega
  · rcases op_cases ho with rfl | rfl <;> simp [byts, tb]

theorem own_bytes2 {w : World} {base : Nat} {v : Value} {xs : List Int} (h : w.ownsRow base 5 1 v xs.length (bs xs)) (h0 : 0 < xs.length) :
    ∃ g cap, v = .slice (some ⟨g, 0, none⟩) xs.length cap ∧ base ≤ g ∧ g < w.heap.size ∧ xs.length ≤ cap ∧ BytesAt g xs.length (fun j => xs.getD j 0) w := by
  obtain ⟨g, cap, e, hb, hl, hx⟩ := own_bytes h rfl h0
  refine ⟨g, cap, e, hb, hl, ?_, hx⟩
  rcases h.2 with ⟨_, hn⟩ | ⟨g', cap', cur, e', _, _, hnc, _⟩
  · omega
  · rw [e] at e'
    injection e' with _ _ e3
    omega

theorem BytesAt.str {g : Nat} {A B : List Int} {S : List Int} {w : World} (h : BytesAt g (A ++ B ++ S).length (fun j => (A ++ B ++ S).getD j 0) w) : StrAt g A.length B w := fun m hm => by
  have := h (A.length + m) (by simp; omega)
  rw [this]
  simp only [List.getD_eq_getElem?_getD, List.append_assoc]
  rw [List.getElem?_append_right (by omega), List.getElem?_append_left (by omega), Nat.add_sub_cancel_left]

theorem value_any (F : Interp) (T : List Nat) (e : Nat) (hT : Good T e) (g cap : Nat) (A S : List Int) (w : World) (hF : F.answers w.tape)
    (hx : BytesAt g (A ++ byts T ++ S).length (fun j => (A ++ byts T ++ S).getD j 0) w) (hS : 0 < S.length → isDe (S.getD 0 0) = true) (hb : (A ++ byts T ++ S).length ≤ 1000000) (hc : (A ++ byts T ++ S).length ≤ cap) :
    Calls Ybaf.prog 6 #[.slice (some ⟨g, 0, none⟩) (A ++ byts T ++ S).length cap, .int .i64 A.length] w fun r w' => Ends (hasBad T) (A.length + (byts T).length) r ∧ Kept [] w w' := by
  have hs := hx.str
  have hpos := hT.pos
  have hn : A.length + (byts T).length ≤ (A ++ byts T ++ S).length := by simp only [List.length_append]; omega
  rcases hT.shape with ⟨k, hk, rfl⟩ | ⟨j, hj, rfl⟩ | ⟨o, T', rfl, ho, hf⟩
  · obtain ⟨h1, h2, ⟨q1, q2, q3⟩, h3⟩ := scT_head hk
    have at_ : ∀ m, m < (byts (scT k)).length → (A ++ byts (scT k) ++ S).getD (A.length + m) 0 = (byts (scT k)).getD m 0 := fun m hm => by
      simp only [List.getD_eq_getElem?_getD, List.append_assoc]
      rw [List.getElem?_append_right (by omega), List.getElem?_append_left (by omega), Nat.add_sub_cancel_left]
    have a0 := at_ 0 h1
    rw [Nat.add_zero] at a0
    refine (value_scalar g (A ++ byts (scT k) ++ S).length cap A.length (A.length + (byts (scT k)).length) (fun j => (A ++ byts (scT k) ++ S).getD j 0) w hx (by omega) (by omega) (by rw [a0]; exact q1) (by rw [a0]; exact q2) (by rw [a0]; exact q3) (by omega) hn (fun m hm1 hm2 => ?_) (fun hlt => ?_)).mono fun r w' h => ⟨.inl ⟨(scV_at hk).2.2.2, h.1⟩, h.2⟩
    · have := at_ (m - A.length) (by omega)
      rw [Nat.add_sub_cancel' hm1] at this
      show isDe ((A ++ byts (scT k) ++ S).getD m 0) = false
      rw [this]
      exact h3 _ (by omega)
    · show isDe ((A ++ byts (scT k) ++ S).getD _ 0) = true
      have e1 : (A ++ byts (scT k) ++ S).getD (A.length + (byts (scT k)).length) 0 = S.getD 0 0 := by
        have e2 : (A ++ byts (scT k)).length = A.length + (byts (scT k)).length := List.length_append
        rw [List.getD_eq_getElem?_getD, List.getD_eq_getElem?_getD, ← e2, List.getElem?_append_right (Nat.le_refl _), Nat.sub_self]
      rw [e1]
      exact hS (by simp at hlt; omega)
  · rw [byts_one hj] at hs hn ⊢
    have e1 : hasBad [j] = isBad j := by simp [hasBad]
    rw [e1]
    exact value_str F j hj g A.length _ cap w hF hs hn (by rw [← byts_one hj]; exact hb) (by rw [← byts_one hj]; exact hc)
  · exact value_cont F (o :: T') g A.length _ cap w hF hs hn hb hc o T' rfl ho hf hT.ok
end Go.Proofs.YbulkcqsiFmt
