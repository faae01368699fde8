import Derived.Test.YbulkcqsiFmtG
namespace Go.Proofs.YbulkcqsiFmt
set_option linter.unusedVariables false
set_option linter.unusedSimpArgs false
open Go.RowKit

def GenC (e d : Nat) : Prop := ∀ (oa : Option Addr) (n0 B0 kb bb base : Nat) (z : Nat → Int) (β : Bool) (oc : Nat) (v : Value) (xs : List Int) (w : World),
  G oa n0 B0 kb bb base z β xs w [] v w → xs.length + LB e ≤ 90000 →
    Calls Ybaf.prog 5 #[.slice oa n0 oc, .pointer (some ⟨kb, 0, none⟩), .int .i64 d, v, .pointer (some ⟨bb, 0, none⟩)] w fun r w' => ∃ v' T, r = .returned v' ∧ G oa n0 B0 kb bb base z β xs w T v' w' ∧ Good T e

set_option maxRecDepth 20000 in
set_option maxHeartbeats 4000000 in
theorem gen0  : GenC 0 5 := by
  intro oa n0 B0 kb bb base z β oc v xs w h hl
  obtain ⟨i0, hi, hz0, hz1, hz2⟩ := info_parts Ybaf.info5
  have hLB := LB_ge 0
  go_enter Ybaf.func5, Ybaf.ntmps5
  go_wp2_with fail
  have ht := alloc_at w (.cells scV 24)
  have gA := h.alloc (.cells scV 24)
  refine Calls.mono (show Calls Ybaf.prog 7 _ (w.alloc (.cells scV 24)) _ from next_any oc (w.alloc (.cells scV 24)) gA.st) ?_
  rintro _ w2 ⟨x, rfl, x0, x1, s2, K2⟩
  have t2 : w2.heap[w.heap.size]? = some (.cells scV 24) := K2.at ht (by have := h.st.size; have := h.st.k1; simp; omega)
  have g2 := gA.next s2 K2
  clear ht gA K2 s2
  generalize w.heap.size = N at *
  generalize w.alloc (.cells scV 24) = wA at *
  obtain ⟨k, hk6, hk⟩ : ∃ k : Nat, (x / 5 % 6).toNat = k ∧ k < 6 := ⟨_, rfl, by omega⟩
  obtain ⟨e1, e2, e3, e4⟩ := scV_at hk
  have c2 : w2.cell? ⟨N, k, none⟩ = some (.string (scS k)) := cell_at t2 _ e1
  clear t2 e1
  have hsz := g2.st.size
  have hlx : (xs ++ byts []).length + (scS k).size ≤ 100000 := by simp [byts]; omega
  rcases (show x % 5 = 0 ∨ x % 5 = 1 ∨ x % 5 = 2 ∨ x % 5 = 3 ∨ x % 5 = 4 by omega) with hkd | hkd | hkd | hkd | hkd
  · go_wp2_with (at_builtin; go_must (refine wpList_str rfl (.tmp 70) (.tmp 76) 22 9 (by rfl) base i0 Ybaf.underlying22 Ybaf.underlying9 hi hz0 hz1 hz2 v _ (xs ++ byts []) (by rfl) rfl g2.own (scS k) (by rfl) (by omega) hsz ?_))
    intro v3 w3 hA
    rw [show ((scS k).data.toList.map fun c => (c.toNat : Int)) = byts (scT k) from e2] at hA
    have g3 := g2.app hA e4
    clear hA
    go_wp2_with fail
    go_ret
    exact ⟨v3, scT k, rfl, g3, Good.scal hk 0⟩
  · go_wp2_with (at_builtin; go_must (refine wpList_str rfl (.tmp 70) (.tmp 76) 22 9 (by rfl) base i0 Ybaf.underlying22 Ybaf.underlying9 hi hz0 hz1 hz2 v _ (xs ++ byts []) (by rfl) rfl g2.own (scS k) (by rfl) (by omega) hsz ?_))
    intro v3 w3 hA
    rw [show ((scS k).data.toList.map fun c => (c.toNat : Int)) = byts (scT k) from e2] at hA
    have g3 := g2.app hA e4
    clear hA
    go_wp2_with fail
    go_ret
    exact ⟨v3, scT k, rfl, g3, Good.scal hk 0⟩
  · clear c2 hk6 e2 e3 e4 hlx
    go_wp2_with fail
    refine (gstr_G oc g2 (by simp [byts]; omega)).mono ?_
    rintro _ w3 ⟨v3, j, rfl, hj, g3⟩
    go_wp2_with fail
    go_ret
    exact ⟨v3, [j], rfl, g3, Good.str hj 0⟩
  · go_wp2_with (at_builtin; go_must (refine wpList_str rfl (.tmp 70) (.tmp 76) 22 9 (by rfl) base i0 Ybaf.underlying22 Ybaf.underlying9 hi hz0 hz1 hz2 v _ (xs ++ byts []) (by rfl) rfl g2.own (scS k) (by rfl) (by omega) hsz ?_))
    intro v3 w3 hA
    rw [show ((scS k).data.toList.map fun c => (c.toNat : Int)) = byts (scT k) from e2] at hA
    have g3 := g2.app hA e4
    clear hA
    go_wp2_with fail
    go_ret
    exact ⟨v3, scT k, rfl, g3, Good.scal hk 0⟩
  · go_wp2_with (at_builtin; go_must (refine wpList_str rfl (.tmp 70) (.tmp 76) 22 9 (by rfl) base i0 Ybaf.underlying22 Ybaf.underlying9 hi hz0 hz1 hz2 v _ (xs ++ byts []) (by rfl) rfl g2.own (scS k) (by rfl) (by omega) hsz ?_))
    intro v3 w3 hA
    rw [show ((scS k).data.toList.map fun c => (c.toNat : Int)) = byts (scT k) from e2] at hA
    have g3 := g2.app hA e4
    clear hA
    go_wp2_with fail
    go_ret
    exact ⟨v3, scT k, rfl, g3, Good.scal hk 0⟩

set_option maxRecDepth 20000 in
set_option maxHeartbeats 4000000 in
theorem genS (e d : Nat) (hd : d < 5) (ih : GenC e (d + 1)) : GenC (e + 1) d := by
  intro oa n0 B0 kb bb base z β oc v xs w h hl
  obtain ⟨i0, hi, hz0, hz1, hz2⟩ := info_parts Ybaf.info5
  have hLB := LB_ge (e + 1)
  have hLe := LB_ge e
  have hLs : LB (e + 1) = 3 * LB e + 60 := rfl
  rw [hLs] at hl hLB
  go_enter Ybaf.func5, Ybaf.ntmps5
  go_wp2_with fail
  have ht := alloc_at w (.cells scV 24)
  have gA := h.alloc (.cells scV 24)
  refine Calls.mono (show Calls Ybaf.prog 7 _ (w.alloc (.cells scV 24)) _ from next_any oc (w.alloc (.cells scV 24)) gA.st) ?_
  rintro _ w2 ⟨x, rfl, x0, x1, s2, K2⟩
  have t2 : w2.heap[w.heap.size]? = some (.cells scV 24) := K2.at ht (by have := h.st.size; have := h.st.k1; simp; omega)
  have g2 := gA.next s2 K2
  clear ht gA K2 s2
  generalize w.heap.size = N at *
  generalize w.alloc (.cells scV 24) = wA at *
  obtain ⟨k, hk6, hk⟩ : ∃ k : Nat, (x / 5 % 6).toNat = k ∧ k < 6 := ⟨_, rfl, by omega⟩
  obtain ⟨e1, e2, e3, e4⟩ := scV_at hk
  have c2 : w2.cell? ⟨N, k, none⟩ = some (.string (scS k)) := cell_at t2 _ e1
  clear t2 e1
  have hsz := g2.st.size
  have hlx : (xs ++ byts []).length + (scS k).size ≤ 100000 := by simp [byts]; omega
  replace ih : Hid (GenC e (d + 1)) := ih
  rcases (show x % 5 = 0 ∨ x % 5 = 1 ∨ x % 5 = 2 ∨ x % 5 = 3 ∨ x % 5 = 4 by omega) with hkd | hkd | hkd | hkd | hkd
  · go_wp2_with (at_builtin; go_must (refine wpList_str rfl (.tmp 70) (.tmp 76) 22 9 (by rfl) base i0 Ybaf.underlying22 Ybaf.underlying9 hi hz0 hz1 hz2 v _ (xs ++ byts []) (by rfl) rfl g2.own (scS k) (by rfl) (by omega) hsz ?_))
    intro v3 w3 hA
    rw [show ((scS k).data.toList.map fun c => (c.toNat : Int)) = byts (scT k) from e2] at hA
    have g3 := g2.app hA e4
    clear hA
    go_wp2_with fail
    go_ret
    exact ⟨v3, scT k, rfl, g3, Good.scal hk (e + 1)⟩
  · go_wp2_with (at_builtin; go_must (refine wpList_str rfl (.tmp 70) (.tmp 76) 22 9 (by rfl) base i0 Ybaf.underlying22 Ybaf.underlying9 hi hz0 hz1 hz2 v _ (xs ++ byts []) (by rfl) rfl g2.own (scS k) (by rfl) (by omega) hsz ?_))
    intro v3 w3 hA
    rw [show ((scS k).data.toList.map fun c => (c.toNat : Int)) = byts (scT k) from e2] at hA
    have g3 := g2.app hA e4
    clear hA
    go_wp2_with fail
    go_ret
    exact ⟨v3, scT k, rfl, g3, Good.scal hk (e + 1)⟩
  · clear c2 hk6 e2 e3 e4 hlx
    go_wp2_with fail
    refine (gstr_G oc g2 (by simp [byts]; omega)).mono ?_
    rintro _ w3 ⟨v3, j, rfl, hj, g3⟩
    go_wp2_with fail
    go_ret
    exact ⟨v3, [j], rfl, g3, Good.str hj (e + 1)⟩
  · clear c2 hk6 e2 e3 e4 hlx hk
    go_wp2_with fail
    refine (next_any oc w2 g2.st).mono ?_
    rintro _ w3 ⟨y, rfl, y0, y1, s3, K3⟩
    have g3 := g2.next s3 K3
    clear s3 K3 g2
    obtain ⟨n, hn, hn4⟩ : ∃ n : Nat, y % 4 = n ∧ n < 4 := ⟨(y % 4).toNat, by omega, by omega⟩
    have hl0 : (xs ++ byts []).length ≤ 90000 := by simp [byts]; omega
    go_wp2_with (at_builtin; go_must (refine wpList_bytes rfl (.tmp 92) (.tmp 93) 22 (by rfl) base i0 Ybaf.underlying22 hi hz0 hz1 hz2 v _ (xs ++ byts ([])) (by rfl) rfl (g3.own.alloc _) ⟨w3.heap.size, 0, none⟩ 1 1 [91] (by rfl) rfl (by omega) ?news (by omega) (by have := g3.st.size; simp; omega) ?_))
    case news => exact World.news_of_block (cs := #[.int .u8 91]) (alloc_at _ _)
    intro v4 w4 hA
    have g4 := (g3.alloc _).app (Q := [103]) hA rfl
    clear hA
    clear g3 hl0
    simp only [List.nil_append] at g4
    have hI : Hid (G oa n0 B0 kb bb base z β xs w (103 :: []) v4 w4 ∧ Bal [] ∧ ∀ t ∈ ([] : List Nat), okT t) := ⟨g4, Bal.nil, by simp⟩
    clear g4
    go_wp2_with fail
    go_loopw [3, 15] (fun ov jv wr => ∃ (j : Nat) (S : List Nat), jv = .int .i64 j ∧ j ≤ n ∧ (byts S).length ≤ j * (LB e + 2) ∧ Hid (G oa n0 B0 kb bb base z β xs w (103 :: S) ov wr ∧ Bal S ∧ ∀ t ∈ S, okT t)) (fun _ jv _ => n - (intOf jv).toNat)
    case atStart => exact ⟨0, [], rfl, Nat.zero_le _, by simp [byts], hI⟩
    clear hI
    case round =>
      obtain ⟨j, S, rfl, hjn, hSl, hI⟩ := hrel
      obtain ⟨g, hbal, hok⟩ := hI.out
      have hP : (xs ++ byts (103 :: S)).length = xs.length + 1 + (byts S).length := by simp [byts, tb]; omega
      have m1 : j * (LB e + 2) ≤ 3 * (LB e + 2) := Nat.mul_le_mul_right _ (by omega)
      have m2 : (j + 1) * (LB e + 2) = j * (LB e + 2) + (LB e + 2) := Nat.succ_mul _ _
      have hgs := g.st.size
      by_cases hlt : j < n
      · have m3 : j * (LB e + 2) ≤ 2 * (LB e + 2) := Nat.mul_le_mul_right _ (by omega)
        by_cases hj0 : 0 < j
        · clear hI
          go_wp2_with (at_builtin; go_must (refine wpList_bytes rfl (.tmp 102) (.tmp 103) 22 (by rfl) base i0 Ybaf.underlying22 hi hz0 hz1 hz2 u3 _ (xs ++ byts (103 :: S)) (by rfl) rfl (g.own.alloc _) ⟨wr.heap.size, 0, none⟩ 2 2 [44, 32] (by rfl) rfl (by omega) ?news (by omega) (by have := g.st.size; simp; omega) ?_))
          case news => exact World.news_of_block (cs := #[.int .u8 44, .int .u8 32]) (alloc_at _ _)
          intro v5 w5 hA
          have g5 := (g.alloc _).app (Q := [56, 44]) hA rfl
          clear hA
          have hP5 : (xs ++ byts ((103 :: S) ++ [56, 44])).length = xs.length + 1 + (byts S).length + 2 := by rw [byts_append, ← List.append_assoc, List.length_append, hP]; rfl
          clear g
          go_wp2_with fail
          refine (ih.out oa n0 B0 kb bb base z (β || hasBad ((103 :: S) ++ [56, 44])) oc v5 (xs ++ byts ((103 :: S) ++ [56, 44])) w5 g5.start (by omega)).mono ?_
          rintro _ w6 ⟨v6, T, rfl, g6, hT⟩
          have g7 := g5.comp g6
          clear g6 g5
          go_wp2_with fail
          refine ⟨⟨j + 1, S ++ [56, 44] ++ T, by go_num, by omega, ?_, ?_⟩, by simp [intOf]; omega⟩
          · have := hT.len
            rw [byts_append, byts_append, List.length_append, List.length_append]
            have : (byts [56, 44]).length = 2 := rfl
            omega
          · refine ⟨by simpa using g7, (hbal.append (Bal.list (by decide))).append hT.bal, fun t ht => ?_⟩
            simp only [List.mem_append] at ht
            rcases ht with (ht | ht) | ht
            · exact hok t ht
            · exact (show ∀ t ∈ [56, 44], t < 268 ∧ t ≠ 46 by decide) t ht
            · exact hT.ok t ht
        · obtain rfl : j = 0 := by omega
          clear hI
          go_wp2_with fail
          refine (ih.out oa n0 B0 kb bb base z (β || hasBad (103 :: S)) oc u3 (xs ++ byts (103 :: S)) wr g.start (by omega)).mono ?_
          rintro _ w6 ⟨v6, T, rfl, g6, hT⟩
          have g7 := g.comp g6
          clear g6 g
          go_wp2_with fail
          refine ⟨⟨0 + 1, S ++ T, by go_num, by omega, ?_, ?_⟩, by simp [intOf]; omega⟩
          · have := hT.len
            rw [byts_append, List.length_append]
            omega
          · refine ⟨by simpa using g7, hbal.append hT.bal, fun t ht => ?_⟩
            simp only [List.mem_append] at ht
            rcases ht with ht | ht
            · exact hok t ht
            · exact hT.ok t ht
      · obtain rfl : j = n := by omega
        clear hI
        go_wp2_with (at_builtin; go_must (refine wpList_bytes rfl (.tmp 112) (.tmp 113) 22 (by rfl) base i0 Ybaf.underlying22 hi hz0 hz1 hz2 u3 _ (xs ++ byts (103 :: S)) (by rfl) rfl (g.own.alloc _) ⟨wr.heap.size, 0, none⟩ 1 1 [93] (by rfl) rfl (by omega) ?news (by omega) (by have := g.st.size; simp; omega) ?_))
        case news => exact World.news_of_block (cs := #[.int .u8 93]) (alloc_at _ _)
        intro v5 w5 hA
        have g5 := (g.alloc _).app (Q := [105]) hA rfl
        clear hA
        clear g
        go_wp2_with fail
        go_ret
        refine ⟨v5, 103 :: (S ++ [105]), rfl, by simpa using g5, Bal.wrap rfl rfl rfl hbal, .inr (.inr ⟨103, S ++ [105], rfl, rfl, fin.wrap rfl rfl rfl hbal⟩), fun t ht => ?_, ?_⟩
        · simp only [List.mem_cons, List.mem_append, List.not_mem_nil, or_false] at ht
          rcases ht with rfl | ht | rfl
          · exact ⟨by decide, by decide⟩
          · exact hok t ht
          · exact ⟨by decide, by decide⟩
        · have : (byts (103 :: (S ++ [105]))).length = 1 + (byts S).length + 1 := by
            have e : byts (103 :: (S ++ [105])) = [91] ++ (byts S ++ [93]) := by
              show tb 103 ++ byts (S ++ [105]) = _
              rw [byts_append]; rfl
            rw [e]; simp; omega
          rw [this]
          simp only [LB]
          omega
  · clear c2 hk6 e2 e3 e4 hlx hk
    go_wp2_with fail
    refine (next_any oc w2 g2.st).mono ?_
    rintro _ w3 ⟨y, rfl, y0, y1, s3, K3⟩
    have g3 := g2.next s3 K3
    clear s3 K3 g2
    obtain ⟨n, hn, hn4⟩ : ∃ n : Nat, y % 4 = n ∧ n < 4 := ⟨(y % 4).toNat, by omega, by omega⟩
    have hl0 : (xs ++ byts []).length ≤ 90000 := by simp [byts]; omega
    go_wp2_with (at_builtin; go_must (refine wpList_bytes rfl (.tmp 36) (.tmp 37) 22 (by rfl) base i0 Ybaf.underlying22 hi hz0 hz1 hz2 v _ (xs ++ byts ([])) (by rfl) rfl (g3.own.alloc _) ⟨w3.heap.size, 0, none⟩ 1 1 [123] (by rfl) rfl (by omega) ?news (by omega) (by have := g3.st.size; simp; omega) ?_))
    case news => exact World.news_of_block (cs := #[.int .u8 123]) (alloc_at _ _)
    intro v4 w4 hA
    have g4 := (g3.alloc _).app (Q := [135]) hA rfl
    clear hA
    clear g3 hl0
    simp only [List.nil_append] at g4
    have hI : Hid (G oa n0 B0 kb bb base z β xs w (135 :: []) v4 w4 ∧ Bal [] ∧ ∀ t ∈ ([] : List Nat), okT t) := ⟨g4, Bal.nil, by simp⟩
    clear g4
    go_wp2_with fail
    go_loopw [3, 17] (fun ov jv wr => ∃ (j : Nat) (S : List Nat), jv = .int .i64 j ∧ j ≤ n ∧ (byts S).length ≤ j * (LB e + 17) ∧ Hid (G oa n0 B0 kb bb base z β xs w (135 :: S) ov wr ∧ Bal S ∧ ∀ t ∈ S, okT t)) (fun _ jv _ => n - (intOf jv).toNat)
    case atStart => exact ⟨0, [], rfl, Nat.zero_le _, by simp [byts], hI⟩
    clear hI
    case round =>
      obtain ⟨j, S, rfl, hjn, hSl, hI⟩ := hrel
      obtain ⟨g, hbal, hok⟩ := hI.out
      have hP : (xs ++ byts (135 :: S)).length = xs.length + 1 + (byts S).length := by simp [byts, tb]; omega
      have m1 : j * (LB e + 17) ≤ 3 * (LB e + 17) := Nat.mul_le_mul_right _ (by omega)
      have m2 : (j + 1) * (LB e + 17) = j * (LB e + 17) + (LB e + 17) := Nat.succ_mul _ _
      have hgs := g.st.size
      by_cases hlt : j < n
      · have m3 : j * (LB e + 17) ≤ 2 * (LB e + 17) := Nat.mul_le_mul_right _ (by omega)
        by_cases hj0 : 0 < j
        · clear hI
          go_wp2_with (at_builtin; go_must (refine wpList_bytes rfl (.tmp 46) (.tmp 47) 22 (by rfl) base i0 Ybaf.underlying22 hi hz0 hz1 hz2 u3 _ (xs ++ byts (135 :: S)) (by rfl) rfl (g.own.alloc _) ⟨wr.heap.size, 0, none⟩ 1 1 [44] (by rfl) rfl (by omega) ?news (by omega) (by have := g.st.size; simp; omega) ?_))
          case news => exact World.news_of_block (cs := #[.int .u8 44]) (alloc_at _ _)
          intro v5 w5 hA
          have g5 := (g.alloc _).app (Q := [56]) hA rfl
          clear hA
          have hP5 : (xs ++ byts ((135 :: S) ++ [56])).length = xs.length + 1 + (byts S).length + 1 := by rw [byts_append, ← List.append_assoc, List.length_append, hP]; rfl
          clear g
          go_wp2_with fail
          refine (gstr_G oc g5 (by omega)).mono ?_
          rintro _ wq ⟨vq, q, rfl, hq, gq⟩
          have hPq : (xs ++ byts ((135 :: S) ++ [56] ++ [q])).length ≤ xs.length + 1 + (byts S).length + 1 + 14 := by rw [byts_append, ← List.append_assoc, List.length_append, hP5, byts_one hq]; have := (tab_pos hq).2.1; omega
          clear g5
          go_wp2_with (at_builtin; go_must (refine wpList_bytes rfl (.tmp 54) (.tmp 55) 22 (by rfl) base i0 Ybaf.underlying22 hi hz0 hz1 hz2 vq _ (xs ++ byts ((135 :: S) ++ [56] ++ [q])) (by rfl) rfl (gq.own.alloc _) ⟨wq.heap.size, 0, none⟩ 2 2 [32, 58] (by rfl) rfl (by omega) ?news (by omega) (by have := gq.st.size; simp; omega) ?_))
          case news => exact World.news_of_block (cs := #[.int .u8 32, .int .u8 58]) (alloc_at _ _)
          intro v6 w6 hA
          rw [show (135 :: (S ++ [56, q]) : List Nat) = (135 :: S) ++ [56] ++ [q] by simp] at hA
          have g6 := (gq.alloc _).app (Q := [44, 70]) hA rfl
          clear hA
          have hP6 : (xs ++ byts ((135 :: S) ++ [56] ++ [q] ++ [44, 70])).length ≤ xs.length + 1 + (byts S).length + 1 + 14 + 2 := by rw [byts_append, ← List.append_assoc, List.length_append]; have : (byts [44, 70]).length = 2 := rfl; omega
          clear gq
          go_wp2_with fail
          refine (ih.out oa n0 B0 kb bb base z (β || hasBad ((135 :: S) ++ [56] ++ [q] ++ [44, 70])) oc v6 (xs ++ byts ((135 :: S) ++ [56] ++ [q] ++ [44, 70])) w6 g6.start (by omega)).mono ?_
          rintro _ w7 ⟨v7, T, rfl, g7, hT⟩
          have g8 := g6.comp g7
          clear g7 g6
          go_wp2_with fail
          refine ⟨⟨j + 1, S ++ [56] ++ [q] ++ [44, 70] ++ T, by go_num, by omega, ?_, ?_⟩, by simp [intOf]; omega⟩
          · have := hT.len
            have a1 : (byts [56]).length = 1 := rfl
            have a2 : (byts [44, 70]).length = 2 := rfl
            have a3 := (tab_pos hq).2.1
            simp only [byts_append, List.length_append, byts_one hq]
            omega
          · refine ⟨by simpa using g8, (((hbal.append (Bal.list (by decide))).append (Bal.one (plain_str hq).1 (plain_str hq).2)).append (Bal.list (by decide))).append hT.bal, fun t ht => ?_⟩
            simp only [List.mem_append] at ht
            rcases ht with (((ht | ht) | ht) | ht) | ht
            · exact hok t ht
            · exact (show ∀ t ∈ [56], t < 268 ∧ t ≠ 46 by decide) t ht
            · simp only [List.mem_cons, List.not_mem_nil, or_false] at ht; exact ⟨by omega, by omega⟩
            · exact (show ∀ t ∈ [44, 70], t < 268 ∧ t ≠ 46 by decide) t ht
            · exact hT.ok t ht
        · obtain rfl : j = 0 := by omega
          clear hI
          go_wp2_with fail
          refine (gstr_G oc g (by omega)).mono ?_
          rintro _ wq ⟨vq, q, rfl, hq, gq⟩
          have hPq : (xs ++ byts ((135 :: S) ++ [q])).length ≤ xs.length + 1 + (byts S).length + 14 := by rw [byts_append, ← List.append_assoc, List.length_append, hP, byts_one hq]; have := (tab_pos hq).2.1; omega
          clear g
          go_wp2_with (at_builtin; go_must (refine wpList_bytes rfl (.tmp 54) (.tmp 55) 22 (by rfl) base i0 Ybaf.underlying22 hi hz0 hz1 hz2 vq _ (xs ++ byts ((135 :: S) ++ [q])) (by rfl) rfl (gq.own.alloc _) ⟨wq.heap.size, 0, none⟩ 2 2 [32, 58] (by rfl) rfl (by omega) ?news (by omega) (by have := gq.st.size; simp; omega) ?_))
          case news => exact World.news_of_block (cs := #[.int .u8 32, .int .u8 58]) (alloc_at _ _)
          intro v6 w6 hA
          have g6 := (gq.alloc _).app (Q := [44, 70]) hA rfl
          clear hA
          have hP6 : (xs ++ byts ((135 :: S) ++ [q] ++ [44, 70])).length ≤ xs.length + 1 + (byts S).length + 14 + 2 := by rw [byts_append, ← List.append_assoc, List.length_append]; have : (byts [44, 70]).length = 2 := rfl; omega
          clear gq
          go_wp2_with fail
          refine (ih.out oa n0 B0 kb bb base z (β || hasBad ((135 :: S) ++ [q] ++ [44, 70])) oc v6 (xs ++ byts ((135 :: S) ++ [q] ++ [44, 70])) w6 g6.start (by omega)).mono ?_
          rintro _ w7 ⟨v7, T, rfl, g7, hT⟩
          have g8 := g6.comp g7
          clear g7 g6
          go_wp2_with fail
          refine ⟨⟨0 + 1, S ++ [q] ++ [44, 70] ++ T, by go_num, by omega, ?_, ?_⟩, by simp [intOf]; omega⟩
          · have := hT.len
            have a2 : (byts [44, 70]).length = 2 := rfl
            have a3 := (tab_pos hq).2.1
            simp only [byts_append, List.length_append, byts_one hq]
            omega
          · refine ⟨by simpa using g8, ((hbal.append (Bal.one (plain_str hq).1 (plain_str hq).2)).append (Bal.list (by decide))).append hT.bal, fun t ht => ?_⟩
            simp only [List.mem_append] at ht
            rcases ht with ((ht | ht) | ht) | ht
            · exact hok t ht
            · simp only [List.mem_cons, List.not_mem_nil, or_false] at ht; exact ⟨by omega, by omega⟩
            · exact (show ∀ t ∈ [44, 70], t < 268 ∧ t ≠ 46 by decide) t ht
            · exact hT.ok t ht
      · obtain rfl : j = n := by omega
        clear hI
        go_wp2_with (at_builtin; go_must (refine wpList_bytes rfl (.tmp 64) (.tmp 65) 22 (by rfl) base i0 Ybaf.underlying22 hi hz0 hz1 hz2 u3 _ (xs ++ byts (135 :: S)) (by rfl) rfl (g.own.alloc _) ⟨wr.heap.size, 0, none⟩ 1 1 [125] (by rfl) rfl (by omega) ?news (by omega) (by have := g.st.size; simp; omega) ?_))
        case news => exact World.news_of_block (cs := #[.int .u8 125]) (alloc_at _ _)
        intro v5 w5 hA
        have g5 := (g.alloc _).app (Q := [137]) hA rfl
        clear hA
        clear g
        go_wp2_with fail
        go_ret
        refine ⟨v5, 135 :: (S ++ [137]), rfl, by simpa using g5, Bal.wrap rfl rfl rfl hbal, .inr (.inr ⟨135, S ++ [137], rfl, rfl, fin.wrap rfl rfl rfl hbal⟩), fun t ht => ?_, ?_⟩
        · simp only [List.mem_cons, List.mem_append, List.not_mem_nil, or_false] at ht
          rcases ht with rfl | ht | rfl
          · exact ⟨by decide, by decide⟩
          · exact hok t ht
          · exact ⟨by decide, by decide⟩
        · have : (byts (135 :: (S ++ [137]))).length = 1 + (byts S).length + 1 := by
            have e : byts (135 :: (S ++ [137])) = [123] ++ (byts S ++ [125]) := by
              show tb 135 ++ byts (S ++ [137]) = _
              rw [byts_append]; rfl
            rw [e]; simp; omega
          rw [this]
          simp only [LB]
          omega

theorem gen_any : ∀ e d, d + e = 5 → GenC e d
  | 0, d, h => by obtain rfl : d = 5 := by omega
                  exact gen0
  | e + 1, d, h => genS e d (by omega) (gen_any e (d + 1) (by omega))
end Go.Proofs.YbulkcqsiFmt

