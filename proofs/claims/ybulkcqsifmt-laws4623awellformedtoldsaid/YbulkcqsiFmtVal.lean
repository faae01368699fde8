import Derived.Test.YbulkcqsiFmtTok
namespace Go.Proofs.YbulkcqsiFmt
set_option linter.unusedVariables false
set_option linter.unusedSimpArgs false
open Go.RowKit Go.Extern.Stop Go.Stop Go.Extern

set_option maxRecDepth 20000 in
theorem value_str (F : Interp) (t : Nat) (ht : t < 12) (g i n cap : Nat) (w : World) (hF : F.answers w.tape) (hs : StrAt g i (tab t) w) (hn : i + (tab t).length ≤ n) (hb : n ≤ 1000000) (hc : n ≤ cap) :
    Calls Ybaf.prog 6 #[.slice (some ⟨g, 0, none⟩) n cap, .int .i64 i] w fun r w' => Ends (isBad t) (i + (tab t).length) r ∧ Kept [] w w' := by
  obtain ⟨l0, l1, l2⟩ := tab_pos ht
  have c0 := hs 0 (by omega)
  rw [l2, Nat.add_zero] at c0
  have call : Hid _ := str_any F t ht g i n cap w hF hs hn hb hc
  go_enter Ybaf.func6, Ybaf.ntmps6
  go_wp2_with fail
  refine Calls.mono call.out ?_
  rintro _ w' ⟨⟨e, rfl⟩ | ⟨e, p, rfl⟩, K⟩
  · go_wp2_with fail
    go_ret2
    exact ⟨.inl ⟨e, rfl⟩, K⟩
  · go_wp2_with fail
    go_ret2
    exact ⟨.inr ⟨e, p, rfl⟩, K⟩

theorem op_cases {t : Nat} (h : isOp t = true) : t = 135 ∨ t = 103 := by simpa [isOp] using h
theorem cl_cases {t : Nat} (h : isCl t = true) : t = 137 ∨ t = 105 := by simpa [isCl] using h

set_option maxRecDepth 20000 in
set_option maxHeartbeats 2000000 in
theorem value_cont (F : Interp) (T : List Nat) (g i n cap : Nat) (w : World) (hF : F.answers w.tape) (hs : StrAt g i (byts T) w) (hn : i + (byts T).length ≤ n) (hb : n ≤ 1000000) (hc : n ≤ cap)
    (o : Nat) (T' : List Nat) (hT : T = o :: T') (ho : isOp o = true) (hfin : fin 0 T) (hok : ∀ t ∈ T, okT t) :
    Calls Ybaf.prog 6 #[.slice (some ⟨g, 0, none⟩) n cap, .int .i64 i] w fun r w' => Ends (hasBad T) (i + (byts T).length) r ∧ Kept [] w w' := by
  have c0 : w.cell? ⟨g, i, none⟩ = some (.int .u8 ((o - 12 : Nat) : Int)) := by
    have := hs 0 (by rw [hT]; rcases op_cases ho with rfl | rfl <;> simp [byts, tb])
    rw [Nat.add_zero] at this
    rw [this, hT]
    rcases op_cases ho with rfl | rfl <;> rfl
  have hlen : 0 < (byts T).length := by rw [hT]; rcases op_cases ho with rfl | rfl <;> simp [byts, tb]
  have I0 : Hid (StrAt g i (byts T) w ∧ fin 0 T ∧ (∀ t ∈ T, okT t)) := ⟨hs, hfin, hok⟩
  clear hs hfin hok
  rcases op_cases ho with rfl | rfl
  all_goals
    simp only [Nat.reduceSub] at c0
    go_enter Ybaf.func6, Ybaf.ntmps6
    go_wp2_with fail
    clear c0 hT ho
    go_loopw [1, 6] (fun iv dv wr => ∃ (p D : Nat) (S : List Nat), iv = .int .i64 p ∧ dv = .int .i64 D ∧ D ≤ p ∧ p + (byts S).length = i + (byts T).length ∧ Hid (StrAt g p (byts S) w ∧ fin D S ∧ (∀ t ∈ S, okT t)) ∧ Hid (hasBad S = hasBad T) ∧ Kept [] w wr) (fun iv _ _ => i + (byts T).length - (intOf iv).toNat)
    case atStart => exact ⟨i, 0, T, rfl, rfl, by omega, rfl, I0, rfl, Kept.refl _ _⟩
    case round =>
      obtain ⟨p, D, S, rfl, rfl, hDp, hpe, hI, hB, hK⟩ := hrel
      obtain ⟨hS, hf, hk⟩ := hI.out
      cases S with
      | nil => exact hf.elim
      | cons t S =>
        have hokt := hk t (by simp)
        have hk' : ∀ t ∈ S, okT t := fun x hx => hk x (by simp [hx])
        have hbyts : byts (t :: S) = tb t ++ byts S := rfl
        rw [hbyts] at hS hpe
        have hSl := hS.left
        have hSr := hS.right
        rw [List.length_append] at hpe
        have hbad : hasBad (t :: S) = (isBad t || hasBad S) := rfl
        rw [fin] at hf
        clear hI hS hk hbyts
        by_cases ht : t < 12
        · have htb : tb t = tab t := if_pos ht
          rw [htb] at hSl hSr hpe
          obtain ⟨l0, l1, l2⟩ := tab_pos ht
          have c0 := hSl 0 (by omega)
          rw [l2, Nat.add_zero] at c0
          replace c0 := hK.cell c0 (by simp)
          have hop : isOp t = false := by simp [isOp]; omega
          have hcl : isCl t = false := by simp [isCl]; omega
          rw [hop, hcl] at hf
          simp only [Bool.false_eq_true, if_false] at hf
          have call : Hid _ := str_any F t ht g p n cap wr (by rw [hK.tape]; exact hF) (hSl.kept hK (by simp)) (by omega) hb hc
          have hI' : Hid (StrAt g (p + (tab t).length) (byts S) w ∧ fin D S ∧ (∀ t ∈ S, okT t)) := ⟨hSr, hf, hk'⟩
          clear hf hSl hSr hk' hokt hop hcl htb l2
          generalize (tab t).length = L at *
          go_wp2_with fail
          refine Calls.mono call.out ?_
          rintro _ w2 ⟨⟨e, rfl⟩ | ⟨e, q, rfl⟩, K⟩
          · rw [e, Bool.false_or] at hbad
            have hB' : Hid (hasBad S = hasBad T) := by have := hB.out; rw [hbad] at this; exact this
            clear hbad hB e call c0
            go_wp2_with fail
            exact ⟨⟨p + L, D, S, by go_num, rfl, by omega, by omega, hI', hB', hK.trans K⟩, by simp [intOf]; omega⟩
          · rw [e, Bool.true_or] at hbad
            have hB' : hasBad T = true := by have := hB.out; rw [hbad] at this; exact this.symm
            clear hbad hB e call c0 hI'
            go_wp2_with fail
            go_ret2
            exact ⟨.inr ⟨hB', q, rfl⟩, hK.trans K⟩
        · have htb : tb t = [((t - 12 : Nat) : Int)] := if_neg ht
          rw [htb] at hSl hSr hpe
          have c0 := hSl 0 (by simp)
          rw [Nat.add_zero] at c0
          replace c0 : wr.cell? ⟨g, p, none⟩ = some (.int .u8 ((t - 12 : Nat) : Int)) := hK.cell c0 (by simp)
          have hnb : isBad t = false := by simp [isBad]; omega
          rw [hnb, Bool.false_or] at hbad
          have hB' : Hid (hasBad S = hasBad T) := by have := hB.out; rw [hbad] at this; exact this
          simp only [List.length_cons, List.length_nil, Nat.zero_add] at hSr hpe
          clear hbad hB hnb hSl htb
          by_cases hop : isOp t = true
          · rw [if_pos hop] at hf
            have hI' : Hid (StrAt g (p + 1) (byts S) w ∧ fin (D + 1) S ∧ (∀ t ∈ S, okT t)) := ⟨hSr, hf, hk'⟩
            clear hf hSr hk' hokt
            rcases op_cases hop with rfl | rfl
            all_goals
              clear hop
              simp only [Nat.reduceSub] at c0
              go_wp2_with fail
              exact ⟨⟨p + 1, D + 1, S, by go_num, by go_num, by omega, by omega, hI', hB', hK⟩, by simp [intOf]; omega⟩
          · rw [if_neg hop] at hf
            by_cases hcl : isCl t = true
            · rw [if_pos hcl] at hf
              rcases hf with ⟨rfl, rfl⟩ | ⟨h2, hf⟩
              · have hbT : hasBad T = false := by have := hB'.out; rw [← this]; rfl
                simp only [byts, List.length_nil] at hpe
                clear hSr hk' hokt hop hB'
                rcases cl_cases hcl with rfl | rfl
                all_goals
                  clear hcl
                  simp only [Nat.reduceSub] at c0
                  go_wp2_with fail
                  go_ret2
                  refine ⟨.inl ⟨hbT, ?_⟩, hK⟩
                  have : ((p : Int) + 1) = ((i + (byts T).length : Nat) : Int) := by omega
                  simp only [← this]
                  rfl
              · have hI' : Hid (StrAt g (p + 1) (byts S) w ∧ fin (D - 1) S ∧ (∀ t ∈ S, okT t)) := ⟨hSr, hf, hk'⟩
                clear hf hSr hk' hokt hop
                rcases cl_cases hcl with rfl | rfl
                all_goals
                  clear hcl
                  simp only [Nat.reduceSub] at c0
                  go_wp2_with fail
                  exact ⟨⟨p + 1, D - 1, S, by go_num, by rw [show ((D : Int) - 1) = ((D - 1 : Nat) : Int) from by omega], by omega, by omega, hI', hB', hK⟩, by simp [intOf]; omega⟩
            · rw [if_neg hcl] at hf
              have hI' : Hid (StrAt g (p + 1) (byts S) w ∧ fin D S ∧ (∀ t ∈ S, okT t)) := ⟨hSr, hf, hk'⟩
              obtain ⟨o1, o2⟩ := hokt
              simp [isOp] at hop
              simp [isCl] at hcl
              have q1 : ((((t - 12 : Nat) : Int)) == 34) = false := by simp; omega
              have q2 : ((((t - 12 : Nat) : Int)) == 123) = false := by simp; omega
              have q3 : ((((t - 12 : Nat) : Int)) == 91) = false := by simp; omega
              have q4 : ((((t - 12 : Nat) : Int)) == 125) = false := by simp; omega
              have q5 : ((((t - 12 : Nat) : Int)) == 93) = false := by simp; omega
              clear hf hSr hk' hop hcl o1 o2 ht
              generalize (((t - 12 : Nat) : Int)) = c at *
              go_wp2_with fail
              exact ⟨⟨p + 1, D, S, by go_num, rfl, by omega, by omega, hI', hB', hK⟩, by simp [intOf]; omega⟩
end Go.Proofs.YbulkcqsiFmt
