import Derived.Test.YbulkcqmyFire
import Derived.LaidEqlPtr
namespace Go.Proofs.Ybulkcqmy
set_option linter.unusedVariables false
set_option linter.unusedSimpArgs false
open Go.RowKit

theorem Yba.info36 : (Yba.prog.info? 36).map (fun i => (i.zero, i.size, i.bytes)) = some (some (.pointer none), 1, 8) := by kernel_rfl

/-- The loop that makes the requests: i are made. -/
def LInv (q c k n i : Nat) (ts : List Int) (w2 w : World) : Prop :=
  i ≤ n ∧ Kept [q] w2 w ∧ (∃ cur, w.heap[q]? = some (.cells cur 36) ∧ cur.size = n) ∧ ∀ i', i' < i → IsReq q c k w2.heap.size w.heap.size i' (ts.getD i' 0) w

theorem row_of_owns {w : World} {base q n : Nat} {xs : List Value} (h : w.ownsRow base 36 1 (.slice (some ⟨q, 0, none⟩) n n) n xs) : ∃ cur, w.heap[q]? = some (.cells cur 36) ∧ cur.size = n := by
  rcases h.2 with ⟨h1, _⟩ | ⟨g, cap, cur, hv, _, hg, _, _, hc, _⟩
  · cases h1
  · simp at hv
    obtain ⟨rfl, rfl⟩ := hv
    exact ⟨cur, hg, by omega⟩

theorem neq_same (a : Addr) (w : World) : (binOp .neq 36 (.pointer (some a)) (.pointer (some a))).run Yba.prog w = .ok (.bool false) w := by
  obtain ⟨j, hj, _⟩ : ∃ j, Yba.prog.info? 45 = some j ∧ True := ⟨(Yba.prog.info? 45).getD default, by kernel_rfl, trivial⟩
  have h : ∀ d : Nat, (Op.equalIn (d + 1) 36 (.pointer (some a)) (.pointer (some a))).run Yba.prog w = .ok true w := fun d => by
    simp [Op.equalIn, run_underlying Yba.underlying36, sizeOf, typeInfo, hj, run_sameAddr_same]
  simp only [binOp]
  simp [Op.equal, Op.maxDepth, h 9999]

theorem upto_at (n i : Nat) (h : i < n) : ((upto n).map (Value.int .i64))[i]? = some (.int .i64 i) := by
  simp [upto, h]

theorem owns_form {w : World} {base : Nat} {t : TypeId} {v : Value} {n : Nat} {xs : List Value} (h : w.ownsRow base t 1 v n xs) :
    ∃ a cap, v = .slice a n cap ∧ ∀ i, i < n → ∃ gb, a = some ⟨gb, 0, none⟩ ∧ w.cell? ⟨gb, i, none⟩ = xs[i]? := by
  have hl := h.1
  rcases h.2 with ⟨rfl, rfl⟩ | ⟨g, cap, cur, rfl, _, hg, _, _, _, ht⟩
  · exact ⟨none, 0, rfl, fun i hi => by omega⟩
  · refine ⟨_, cap, rfl, fun i hi => ⟨g, rfl, ?_⟩⟩
    rw [cell_of_row w g i cur t (0, 0) hg, ← ht, List.getElem?_take]
    simp [hi]

set_option maxRecDepth 20000 in
set_option maxHeartbeats 4000000 in
theorem walk (a0 : Option Addr) (n cap0 : Nat) (zs : List Int) (a1 a2 : Int) (a3 : Bool) (w : World) (hn : n ≤ 1024)
    (hoff : 0 < n → ∃ b o, a0 = some ⟨b, o, none⟩ ∧ b < w.heap.size ∧ ∀ i, i < n → w.cell? ⟨b, o + i, none⟩ = some (.int .i32 (zs.getD i 0)))
    (hz0 : ∀ i, -2147483648 ≤ zs.getD i 0) (hz1 : ∀ i, zs.getD i 0 ≤ 2147483647) (h10 : -2147483648 ≤ a1) (h11 : a1 ≤ 2147483647) (h20 : -2147483648 ≤ a2) (h21 : a2 ≤ 2147483647) :
    Calls Yba.prog 3 #[.slice a0 n cap0, .int .i32 a1, .int .i32 a2, .bool a3] w fun e w' => e = .returned (.bool true) ∧ Below w.heap.size w w' := by
  replace hoff : Hid _ := hoff
  replace hz0 : Hid _ := hz0
  replace hz1 : Hid _ := hz1
  obtain ⟨i0, hi, hx0, hx1, hx2⟩ := info_parts Yba.info36
  go_enter Yba.func3, Yba.ntmps3
  go_wp2_with fail
  refine (add_any 0 a1 (by omega) (by omega) (by omega) (by omega) _).mono ?_
  rintro _ w1 ⟨rfl, b1⟩
  have e0 : tm (0 + a1) = .agg #[.int .u64 (a1 % 1000000000), .int .i64 (a1 / 1000000000), .pointer none] := by rw [Int.zero_add]; rfl
  rw [e0]
  clear e0
  have Kb : Kept [] (w.alloc (.cells #[.int .u64 0, .int .i64 0, .pointer none] 26)) w1 := Kept.ofBelow b1
  have hbase := Kb.at (alloc_at w (.cells #[.int .u64 0, .int .i64 0, .pointer none] 26)) (by simp)
  have Kw1 : Kept [] w w1 := (Kept.alloc _ _ _).trans Kb
  have hz1' := lt_of_at hbase
  clear b1 Kb
  replace hbase : Hid _ := hbase
  go_wp2_with (at_make; refine wpList_make_full _ rfl (.tmp 31) (.tmp 31) 35 (by rfl) w.heap.size 36 i0 (.pointer none) 1 Yba.underlying35 hi hx0 hx1 .i64 .i64 _ _ n (by rfl) (by rfl) rfl rfl (by rw [hx2]; omega) (by unfold maxLen; omega) (by simp; omega) ?_)
  intro w2 hown hgrow
  have Kg : Kept [] (((w1.alloc (.cells #[.int .u64 (a1 % 1000000000), .int .i64 (a1 / 1000000000), .pointer none, .slice none 0 0, .slice none 0 0] 33)).alloc (.cells #[.slice none 0 0] 34)).alloc (.cells #[.bool true] 4)) w2 := Kept.grown hgrow (by simp)
  have he2 : w2.heap[w1.heap.size]? = some (.cells #[.int .u64 (a1 % 1000000000), .int .i64 (a1 / 1000000000), .pointer none, .slice none 0 0, .slice none 0 0] 33) :=
    Kg.at ((((Kept.alloc [] _ _).trans (Kept.alloc _ _ _))).at (alloc_at w1 _) (by simp)) (by simp)
  have hc2 : w2.heap[w1.heap.size + 1]? = some (.cells #[.slice none 0 0] 34) := by
    have := alloc_at (w1.alloc (.cells #[.int .u64 (a1 % 1000000000), .int .i64 (a1 / 1000000000), .pointer none, .slice none 0 0, .slice none 0 0] 33)) (.cells #[.slice none 0 0] 34)
    simp only [World.size_alloc] at this
    exact Kg.at ((Kept.alloc [] _ _).at this (by simp)) (by simp)
  have hk2 : w2.heap[w1.heap.size + 1 + 1]? = some (.cells #[.bool true] 4) := by
    have := alloc_at ((w1.alloc (.cells #[.int .u64 (a1 % 1000000000), .int .i64 (a1 / 1000000000), .pointer none, .slice none 0 0, .slice none 0 0] 33)).alloc (.cells #[.slice none 0 0] 34)) (.cells #[.bool true] 4)
    simp only [World.size_alloc] at this
    exact Kg.at this (by simp)
  have Kw2 : Kept [] w w2 := (((Kw1.trans (Kept.alloc _ _ _)).trans (Kept.alloc _ _ _)).trans (Kept.alloc _ _ _)).trans Kg
  have hb2 : w2.heap[w.heap.size]? = some (.cells #[.int .u64 0, .int .i64 0, .pointer none] 26) := Kg.at ((((Kept.alloc [] _ _).trans (Kept.alloc _ _ _)).trans (Kept.alloc _ _ _)).at hbase.out (by simp)) (by simp)
  have hq2 := row_of_owns hown
  have tq : w1.heap.size + 1 + 1 + 1 < w2.heap.size := by obtain ⟨cur, h, _⟩ := hq2; exact lt_of_at h
  clear Kg hgrow hown hbase Kw1
  generalize hqe : w1.heap.size + 1 + 1 + 1 = q at *
  generalize hke : w1.heap.size + 1 + 1 = k at *
  generalize hce : w1.heap.size + 1 = c at *
  generalize hee : w1.heap.size = e at *
  have o1 : w.heap.size < e := by omega
  have o2 : e < c := by omega
  have o3 : c < k := by omega
  have o4 : k < q := by omega
  clear hqe hke hce hee hz1'
  replace he2 : Hid _ := he2
  replace hc2 : Hid _ := hc2
  replace hk2 : Hid _ := hk2
  replace hb2 : Hid _ := hb2
  replace hq2 : Hid _ := hq2
  go_wp2_with fail
  go_loopw [14] (fun i wr => ∃ j : Nat, i = .int .i64 j ∧ LInv q c k n j zs w2 wr) (fun i _ => n - (intOf i).toNat)
  case atStart => exact ⟨0, rfl, Nat.zero_le _, Kept.refl _ _, hq2.out, fun i' h => by omega⟩
  case round =>
    obtain ⟨j, rfl, hL⟩ := hrel
    by_cases hjn : j < n
    · obtain ⟨b, o, rfl, hb, hcell⟩ := hoff.out (by omega)
      obtain ⟨l1, Kr, ⟨cur, hcur, hcs⟩, hreq⟩ := hL
      have z0 := Kr.size
      have z1 := Kw2.size
      have hbr := Kr.at hb2.out (by simp; omega)
      have s1 : wr.cell? ⟨w.heap.size, 0, none⟩ = some (.int .u64 0) := cell_at hbr 0 rfl
      have s2 : wr.cell? ⟨w.heap.size, 1, none⟩ = some (.int .i64 0) := cell_at hbr 1 rfl
      have s3 : wr.cell? ⟨w.heap.size, 2, none⟩ = some (.pointer none) := cell_at hbr 2 rfl
      have s4 := Kr.cell (Kw2.cell (hcell j hjn) (by simp)) (by simp; omega)
      have zj0 := hz0.out j
      have zj1 := hz1.out j
      generalize htj : zs.getD j 0 = t at *
      replace htj : Hid _ := htj
      have hwr : IntKind.i64.wrap t = t := IntWalk.i64_in _ ⟨by omega, by omega⟩
      replace hcur : Hid _ := hcur
      replace hreq : Hid _ := hreq
      replace hcell : Hid _ := hcell
      clear hbr
      go_wp2_with fail
      refine wp_region_noPanic (wp_region_last (fun w' => w'.cell? ⟨w.heap.size, 0, none⟩ = some (.int .u64 0) ∧ w'.cell? ⟨w.heap.size, 1, none⟩ = some (.int .i64 0) ∧ w'.cell? ⟨w.heap.size, 2, none⟩ = some (.pointer none) ∧ w'.cell? ⟨b, o + j, none⟩ = some (.int .i32 t)) [2, 6] (by kernel_rfl) ?_)
      have hS := And.intro s1 (And.intro s2 (And.intro s3 s4))
      clear s1 s2 s3 s4
      refine wpAnyL_free (i := 0) (v := ?_) rfl (by kernel_rfl) (by kernel_rfl) (by kernel_rfl) (fun _ _ _ h => h) (by rfl) ?_ ?_
      rotate_left
      · intro w'; go_simp; try with_reducible rfl
      try simp only [Act.put, List.setIfInBounds_toArray, List.set_cons_zero, List.set_cons_succ]
      refine wpAnyL_free (i := 1) (v := ?_) rfl (by kernel_rfl) (by kernel_rfl) (by kernel_rfl) (fun _ _ _ h => h) (by rfl) ?_ ?_
      rotate_left
      · intro w'; go_simp; try with_reducible rfl
      try simp only [Act.put, List.setIfInBounds_toArray, List.set_cons_zero, List.set_cons_succ]
      refine wpAnyL_take (i := 2) (v := ?_) rfl (by kernel_rfl) (by kernel_rfl) (by kernel_rfl) (by kernel_rfl) (fun _ _ _ h => h) (by rfl) ?_ hS ?_
      rotate_left
      · intro w' hS'; go_simp; try with_reducible rfl
      try simp only [Act.put, List.setIfInBounds_toArray, List.set_cons_zero, List.set_cons_succ]
      refine wpAnyL_free (i := 3) (v := ?_) rfl (by kernel_rfl) (by kernel_rfl) (by kernel_rfl) (fun _ _ _ h => h) (by rfl) ?_ ?_
      rotate_left
      · intro w'; go_simp; try with_reducible rfl
      try simp only [Act.put, List.setIfInBounds_toArray, List.set_cons_zero, List.set_cons_succ]
      refine wpAnyL_free (i := 4) (v := ?_) rfl (by kernel_rfl) (by kernel_rfl) (by kernel_rfl) (fun _ _ _ h => h) (by rfl) ?_ ?_
      rotate_left
      · intro w'; go_simp; try with_reducible rfl
      try simp only [Act.put, List.setIfInBounds_toArray, List.set_cons_zero, List.set_cons_succ]
      refine wpAnyL_free (i := 5) (v := ?_) rfl (by kernel_rfl) (by kernel_rfl) (by kernel_rfl) (fun _ _ _ h => h) (by rfl) ?_ ?_
      rotate_left
      · intro w'; go_simp; try with_reducible rfl
      try simp only [Act.put, List.setIfInBounds_toArray, List.set_cons_zero, List.set_cons_succ]
      refine wpAnyL_take (i := 6) (v := ?_) rfl (by kernel_rfl) (by kernel_rfl) (by kernel_rfl) (by kernel_rfl) (fun _ _ _ h => h) (by rfl) ?_ hS ?_
      rotate_left
      · intro w' hS'; go_simp; try with_reducible rfl
      try simp only [Act.put, List.setIfInBounds_toArray, List.set_cons_zero, List.set_cons_succ]
      refine wpAnyL_free (i := 7) (v := ?_) rfl (by kernel_rfl) (by kernel_rfl) (by kernel_rfl) (fun _ _ _ h => h) (by rfl) ?_ ?_
      rotate_left
      · intro w'; go_simp; try with_reducible rfl
      try simp only [Act.put, List.setIfInBounds_toArray, List.set_cons_zero, List.set_cons_succ]
      refine wpAnyL_free (i := 9) (v := ?_) rfl (by kernel_rfl) (by kernel_rfl) (by kernel_rfl) (fun _ _ _ h => h) (by rfl) ?_ ?_
      rotate_left
      · intro w'; go_simp; try with_reducible rfl
      try simp only [Act.put, List.setIfInBounds_toArray, List.set_cons_zero, List.set_cons_succ]
      refine wpAnyL_one (i := 8) (by kernel_rfl) rfl (by rfl) (fun K hK => ?_)
      go_simp
      refine (add_any 0 t (by omega) (by omega) (by omega) (by omega) _).mono ?_
      rintro _ w3 ⟨rfl, b3⟩
      have e0 : tm (0 + t) = .agg #[.int .u64 (t % 1000000000), .int .i64 (t / 1000000000), .pointer none] := by rw [Int.zero_add]; rfl
      rw [e0]
      clear e0
      have K3 : Kept [] wr w3 := (Kept.drew _ _).trans (Kept.ofBelow b3)
      refine hK.out _ _ (fun _ hS => ?_) ?_
      · exact ⟨K3.cell hS.1 (by simp), K3.cell hS.2.1 (by simp), K3.cell hS.2.2.1 (by simp), K3.cell hS.2.2.2 (by simp)⟩
      clear hK K b3
      try simp only [Act.put, List.setIfInBounds_toArray, List.set_cons_zero, List.set_cons_succ]
      refine wpAnyL_one (i := 10) (by kernel_rfl) rfl (by rfl) (fun K hK => ?_)
      go_simp
      refine (done_any j ⟨c, 0, none⟩ ⟨k, 0, none⟩ _).mono ?_
      rintro _ _ ⟨rfl, rfl⟩
      have K4 : Kept [] w3 (((w3.alloc (.cells #[.int .i64 j] 3)).alloc (.cells #[.pointer (some ⟨c, 0, none⟩)] 39)).alloc (.cells #[.pointer (some ⟨k, 0, none⟩)] 40)) := ((Kept.alloc _ _ _).trans (Kept.alloc _ _ _)).trans (Kept.alloc _ _ _)
      have g1 : (((w3.alloc (.cells #[.int .i64 j] 3)).alloc (.cells #[.pointer (some ⟨c, 0, none⟩)] 39)).alloc (.cells #[.pointer (some ⟨k, 0, none⟩)] 40)).heap[w3.heap.size]? = some (.cells #[.int .i64 j] 3) := ((Kept.alloc [] _ _).trans (Kept.alloc _ _ _)).at (alloc_at w3 _) (by simp)
      have g2 : (((w3.alloc (.cells #[.int .i64 j] 3)).alloc (.cells #[.pointer (some ⟨c, 0, none⟩)] 39)).alloc (.cells #[.pointer (some ⟨k, 0, none⟩)] 40)).heap[w3.heap.size + 1]? = some (.cells #[.pointer (some ⟨c, 0, none⟩)] 39) := by
        have := alloc_at (w3.alloc (.cells #[.int .i64 j] 3)) (.cells #[.pointer (some ⟨c, 0, none⟩)] 39)
        simp only [World.size_alloc] at this
        exact (Kept.alloc [] _ _).at this (by simp)
      have g3 : (((w3.alloc (.cells #[.int .i64 j] 3)).alloc (.cells #[.pointer (some ⟨c, 0, none⟩)] 39)).alloc (.cells #[.pointer (some ⟨k, 0, none⟩)] 40)).heap[w3.heap.size + 2]? = some (.cells #[.pointer (some ⟨k, 0, none⟩)] 40) := by
        have := alloc_at ((w3.alloc (.cells #[.int .i64 j] 3)).alloc (.cells #[.pointer (some ⟨c, 0, none⟩)] 39)) (.cells #[.pointer (some ⟨k, 0, none⟩)] 40)
        simp only [World.size_alloc] at this
        exact this
      have z4 : (((w3.alloc (.cells #[.int .i64 j] 3)).alloc (.cells #[.pointer (some ⟨c, 0, none⟩)] 39)).alloc (.cells #[.pointer (some ⟨k, 0, none⟩)] 40)).heap.size = w3.heap.size + 3 := by simp
      generalize (((w3.alloc (.cells #[.int .i64 j] 3)).alloc (.cells #[.pointer (some ⟨c, 0, none⟩)] 39)).alloc (.cells #[.pointer (some ⟨k, 0, none⟩)] 40)) = w4 at *
      refine hK.out _ _ (fun _ hS => ?_) ?_
      · exact ⟨K4.cell hS.1 (by simp), K4.cell hS.2.1 (by simp), K4.cell hS.2.2.1 (by simp), K4.cell hS.2.2.2 (by simp)⟩
      clear hK K
      try simp only [Act.put, List.setIfInBounds_toArray, List.set_cons_zero, List.set_cons_succ]
      refine wpAnyL_free (i := 11) (v := ?_) rfl (by kernel_rfl) (by kernel_rfl) (by kernel_rfl) (fun _ _ _ h => h) (by rfl) ?_ ?_
      rotate_left
      · intro w'; go_simp; try with_reducible rfl
      try simp only [Act.put, List.setIfInBounds_toArray, List.set_cons_zero, List.set_cons_succ]
      refine wpAnyL_one (i := 12) (by kernel_rfl) rfl (by rfl) (fun K hK => ?_)
      go_simp
      have K5 : Kept [] w4 (w4.alloc (.cells (RQ (w3.heap.size + 1) w3.heap.size (w3.heap.size + 2) t) 45)) := Kept.alloc _ _ _
      have g5 := alloc_at w4 (.cells (RQ (w3.heap.size + 1) w3.heap.size (w3.heap.size + 2) t) 45)
      have z5 : (w4.alloc (.cells (RQ (w3.heap.size + 1) w3.heap.size (w3.heap.size + 2) t) 45)).heap.size = w4.heap.size + 1 := by simp
      refine hK.out _ (w4.alloc (.cells (RQ (w3.heap.size + 1) w3.heap.size (w3.heap.size + 2) t) 45)) (fun _ hS => ⟨K5.cell hS.1 (by simp), K5.cell hS.2.1 (by simp), K5.cell hS.2.2.1 (by simp), K5.cell hS.2.2.2 (by simp)⟩) ?_
      clear hK K
      generalize (w4.alloc (.cells (RQ (w3.heap.size + 1) w3.heap.size (w3.heap.size + 2) t) 45)) = w5 at *
      rw [z4] at g5 z5
      have K05 : Kept [] wr w5 := (K3.trans K4).trans K5
      have hcur5 := K05.at hcur.out (by simp)
      have d1 : w5.cell? ⟨q, j, none⟩ = some (cur[j]'(by omega)) := cell_at hcur5 j (by simp)
      have d2 : w5.frozen? ⟨q, j, none⟩ = false := frozen_at hcur5 j
      replace hcur5 : Hid _ := hcur5
      try simp only [Act.put, List.setIfInBounds_toArray, List.set_cons_zero, List.set_cons_succ]
      refine wpAnyL_free (i := 13) (v := ?_) rfl (by kernel_rfl) (by kernel_rfl) (by kernel_rfl) (fun _ _ _ h => h) (by rfl) ?_ ?_
      rotate_left
      · intro w'; go_simp; try with_reducible rfl
      try simp only [Act.put, List.setIfInBounds_toArray, List.set_cons_zero, List.set_cons_succ]
      refine wpAnyL_one (i := 14) (by kernel_rfl) rfl (by rfl) (fun K hK => ?_)
      go_simp
      have K6 : Kept [q] w5 (w5.setCell ⟨q, j, none⟩ (.pointer (some ⟨w3.heap.size + 3, 0, none⟩))) := Kept.setCell _ _ _ (by simp)
      refine hK.out _ _ (fun _ hS => ⟨K6.cell hS.1 (by simp; omega), K6.cell hS.2.1 (by simp; omega), K6.cell hS.2.2.1 (by simp; omega), K6.cell hS.2.2.2 (by simp; omega)⟩) ?_
      clear hK K
      refine wpAnyL_done (by kernel_rfl) ?_ _
      refine NoPanic.normal ?_
      have fin : LInv q c k n (j + 1) zs w2 (w5.setCell ⟨q, j, none⟩ (.pointer (some ⟨w3.heap.size + 3, 0, none⟩))) := by
        have k1 := K3.size
        have k2 : (w5.setCell ⟨q, j, none⟩ (.pointer (some ⟨w3.heap.size + 3, 0, none⟩))).heap.size = w5.heap.size := by simp [World.setCell]
        have K56 : Kept [q] wr (w5.setCell ⟨q, j, none⟩ (.pointer (some ⟨w3.heap.size + 3, 0, none⟩))) := (K05.mono (by simp)).trans K6
        refine ⟨by omega, Kr.trans K56, ⟨_, set_at hcur5.out j _, by simpa using hcs⟩, ?_⟩
        intro i' hi'
        by_cases h : i' = j
        · subst h
          refine ⟨w3.heap.size + 3, w3.heap.size + 1, w3.heap.size, w3.heap.size + 2, ?_, ?_, ?_, ?_, ?_, ?_, ?_, ?_, ?_⟩
          · exact cell_at (set_at hcur5.out i' (.pointer (some ⟨w3.heap.size + 3, 0, none⟩))) i' (v := .pointer (some ⟨w3.heap.size + 3, 0, none⟩)) (by rw [Array.getElem?_setIfInBounds_self_of_lt (by omega)])
          · rw [htj.out]; exact K6.at g5 (by simp; omega)
          · exact K6.at (K5.at g2 (by simp)) (by simp; omega)
          · exact K6.at (K5.at g1 (by simp)) (by simp; omega)
          · exact K6.at (K5.at g3 (by simp)) (by simp; omega)
          all_goals omega
        · obtain ⟨rb, x1, x2, x3, y1, y2, y3, y4, y5, r1, r2, r3, r4⟩ := hreq.out i' (by omega)
          refine ⟨rb, x1, x2, x3, ?_, K56.at y2 (by simp; omega), K56.at y3 (by simp; omega), K56.at y4 (by simp; omega), K56.at y5 (by simp; omega), by omega, by omega, by omega, by omega⟩
          have y1' := K05.cell y1 (by simp)
          rw [World.cell?_setCell_other _ _ _ _ (by simp <;> omega)]
          exact y1'
      clear d1 d2 K05 K3 K4 K5 K6 g1 g2 g3 g5 hcs hS
      go_wp2_with fail
      go_roundw
      case rel => exact ⟨j + 1, by go_num, fin⟩
      case measure => simp [intOf]; omega
    · obtain rfl : j = n := by have := hL.1; omega
      go_wp2_with fail
      obtain ⟨-, Kr, hrow, hreq⟩ := hL
      have z1 := Kw2.size
      have z0 := Kr.size
      have KR : Kept [] wr (wr.alloc (.cells (RC e (.slice (some ⟨q, 0, none⟩) j j) a3) 68)) := Kept.alloc _ _ _
      have hR := alloc_at wr (.cells (RC e (.slice (some ⟨q, 0, none⟩) j j) a3) 68)
      have hM : wr.heap.size < (wr.alloc (.cells (RC e (.slice (some ⟨q, 0, none⟩) j j) a3) 68)).heap.size := by simp
      change Calls Yba.prog 6 #[Value.pointer (some ⟨wr.heap.size, 0, none⟩)] (wr.alloc (.cells (RC e (.slice (some ⟨q, 0, none⟩) j j) a3) 68)) _
      generalize (wr.alloc (.cells (RC e (.slice (some ⟨q, 0, none⟩) j j) a3) 68)) = W at *
      generalize hRR : wr.heap.size = R at *
      replace hRR : Hid _ := hRR
      have KW : Kept [q] w2 W := Kr.trans (KR.mono (by simp))
      have KWB : Below w.heap.size w W := (Kw2.trans' (S' := [q]) KW (by simp; omega)).below (Nat.le_refl _) (by simp)
      have heW := KW.at he2.out (by simp; omega)
      have hcW := KW.at hc2.out (by simp; omega)
      replace hrow : Hid _ := hrow
      replace hreq : Hid _ := hreq
      cases a3 with
      | true =>
        refine (watch_timed R e _ W hR).mono ?_
        rintro _ w3 ⟨rfl, b3⟩
        have K3 : Kept [] W w3 := Kept.ofBelow b3
        go_wp2_with fail
        refine (watch_timed R e _ w3 (K3.at hR (by simp))).mono ?_
        rintro _ w4 ⟨rfl, b4⟩
        have K4 : Kept [] W w4 := K3.trans (Kept.ofBelow b4)
        have hR4 := K4.at hR (by simp)
        have x1 : w4.cell? ⟨R, 23, none⟩ = some (.slice (some ⟨q, 0, none⟩) j j) := cell_at hR4 23 rfl
        have x2 : w4.cell? ⟨R, 24, none⟩ = some (.bool true) := cell_at hR4 24 rfl
        have x3 : w4.cell? ⟨e, 3, none⟩ = some (.slice none 0 0) := cell_at (K4.at heW (by simp)) 3 rfl
        have x4 : w4.cell? ⟨c, 0, none⟩ = some (.slice none 0 0) := cell_at (K4.at hcW (by simp)) 0 rfl
        have fin : Below w.heap.size w w4 := KWB.trans (K4.below (by omega) (by simp))
        clear b3 b4 K3 K4 hR4 hR heW hcW KW KR
        go_wp2_with fail
        go_ret
        exact ⟨rfl, fin⟩
      | false =>
        by_cases hj0 : j = 0
        · subst hj0
          refine (watch_empty R e (some ⟨q, 0, none⟩) 0 W hR).mono ?_
          rintro _ w3 ⟨rfl, b3⟩
          have K3 : Kept [] W w3 := Kept.ofBelow b3
          go_wp2_with fail
          refine (watch_empty R e (some ⟨q, 0, none⟩) 0 w3 (K3.at hR (by simp))).mono ?_
          rintro _ w4 ⟨rfl, b4⟩
          have K4 : Kept [] W w4 := K3.trans (Kept.ofBelow b4)
          have hR4 := K4.at hR (by simp)
          have x1 : w4.cell? ⟨R, 23, none⟩ = some (.slice (some ⟨q, 0, none⟩) 0 0) := cell_at hR4 23 rfl
          have x2 : w4.cell? ⟨R, 24, none⟩ = some (.bool false) := cell_at hR4 24 rfl
          have x3 : w4.cell? ⟨e, 3, none⟩ = some (.slice none 0 0) := cell_at (K4.at heW (by simp)) 3 rfl
          have x4 : w4.cell? ⟨c, 0, none⟩ = some (.slice none 0 0) := cell_at (K4.at hcW (by simp)) 0 rfl
          have fin : Below w.heap.size w w4 := KWB.trans (K4.below (by omega) (by simp))
          clear b3 b4 K3 K4 hR4 hR heW hcW KW KR
          go_wp2_with fail
          go_ret
          exact ⟨rfl, fin⟩
        · obtain ⟨m, rfl⟩ : ∃ m, j = m + 1 := ⟨j - 1, by omega⟩
          have hrq : ∀ i, i < m + 1 → IsReq q c k w2.heap.size R i (zs.getD i 0) W := fun i hi => by
            have := (hreq.out i hi).kept (S := []) KR (by simp) (by simp)
            exact this
          obtain ⟨rb, b1, b2, b3, y1, y2, y3, y4, y5, r1, r2, r3, r4⟩ := hrq 0 (by omega)
          refine (watch_set w.heap.size R e q 0 m rb (m + 1) a1 (zs.getD 0 0) (.slice none 0 0) (.slice none 0 0) [] [] W hR heW (World.ownsRow_nil _ _ _ _) (World.ownsRow_nil _ _ _ _) (by simp [Value.ownBlock]) (by simp [Value.ownBlock]) (by simp [Value.ownBlock]) (by omega) (by simp) (by simp) y1 (cell_at y2 8 rfl) (cell_at y2 9 rfl) (cell_at y2 10 rfl) (by simp [Value.ownBlock]; omega) (by simp [Value.ownBlock]; omega) (by simp [Value.ownBlock]; omega) (by omega) (by omega) (by have := hz0.out 0; omega) (by have := hz1.out 0; omega) (by omega)).mono ?_
          rintro _ w3 ⟨rfl, hP⟩
          obtain ⟨bx, p1, p2, p3, g, gc, g', gc', p4, p5, p6, p7, p8, p9, p10, p11, K3⟩ := hP
          go_wp2_with fail
          refine (watch_timed R e _ w3 p3).mono ?_
          rintro _ w4 ⟨rfl, b4⟩
          have K4 : Kept [] w3 w4 := Kept.ofBelow b4
          have hR4 := K4.at p3 (by simp)
          have he4 := K4.at p4 (by simp)
          have ho4 := K4.owns p5 (by simp)
          have hf4 := K4.owns p6 (by simp)
          have hbx4 := K4.at p2 (by simp)
          simp only [List.map_nil, List.length_nil, List.nil_append, Nat.zero_add] at he4 ho4 hf4
          have K3' : Kept [R, e] W w3 := K3
          have KA : Kept [R, e] W w4 := K3'.trans (K4.mono (by simp))
          obtain ⟨b, o, rfl, hb, hcell⟩ := hoff.out (by omega)
          have hcW4 := KA.at hcW (by simp; omega)
          have gB : w.heap.size ≤ g := by rcases ho4.2 with ⟨h, _⟩ | ⟨_, _, _, h, h', _⟩; cases h; simp at h; omega
          have x1 : w4.cell? ⟨e, 3, none⟩ = some (.slice (some ⟨g, 0, none⟩) 1 gc) := cell_at he4 3 rfl
          have x2 : w4.cell? ⟨R, 23, none⟩ = some (.slice (some ⟨q, 0, none⟩) (m + 1) (m + 1)) := cell_at hR4 23 rfl
          have x3 : w4.cell? ⟨R, 24, none⟩ = some (.bool true) := cell_at hR4 24 rfl
          have x4 : w4.cell? ⟨c, 0, none⟩ = some (.slice none 0 0) := cell_at hcW4 0 rfl
          have x5 : w4.cell? ⟨g, 0, none⟩ = some (.int .i64 (zs.getD 0 0 - a1)) := ho4.cells (g := g) rfl 0 _ rfl
          have x6 : w4.cell? ⟨b, o, none⟩ = some (.int .i32 (zs.getD 0 0)) := KA.cell ((KWB.cell (p := ⟨b, o, none⟩) hb).trans (hcell 0 (by omega))) (by simp; omega)
          have zj0 := hz0.out 0
          have zj1 := hz1.out 0
          generalize htj : zs.getD 0 0 = t at *
          replace htj : Hid _ := htj
          have hw1 : IntKind.i64.wrap t = t := IntWalk.i64_in _ ⟨by omega, by omega⟩
          have hw2 : IntKind.i64.wrap a1 = a1 := IntWalk.i64_in _ ⟨by omega, by omega⟩
          have hw3 : IntKind.i64.wrap (t - a1) = t - a1 := IntWalk.i64_in _ ⟨by omega, by omega⟩
          replace hcell : Hid _ := hcell
          replace he4 : Hid _ := he4
          replace hR4 : Hid _ := hR4
          replace ho4 : Hid _ := ho4
          replace hf4 : Hid _ := hf4
          replace hbx4 : Hid _ := hbx4
          replace hcW4 : Hid _ := hcW4
          replace hR : Hid _ := hR
          replace heW : Hid _ := heW
          replace hcW : Hid _ := hcW
          replace hrq : Hid _ := hrq
          clear p2 p3 p4 p5 p6 y1 y2 y3 y4 y5 b4
          go_wp2_with fail
          refine wp_region_noPanic (wp_region_last (fun w' => w'.cell? ⟨e, 3, none⟩ = some (.slice (some ⟨g, 0, none⟩) 1 gc) ∧ w'.cell? ⟨g, 0, none⟩ = some (.int .i64 (t - a1)) ∧ w'.cell? ⟨b, o, none⟩ = some (.int .i32 t)) [3, 5, 8] (by kernel_rfl) ?_)
          have hS := And.intro x1 (And.intro x5 x6)
          refine wpAnyL_free (i := 0) (v := ?_) rfl (by kernel_rfl) (by kernel_rfl) (by kernel_rfl) (fun _ _ _ h => h) (by rfl) ?_ ?_
          rotate_left
          · intro w'; go_simp; try with_reducible rfl
          try simp only [Act.put, List.setIfInBounds_toArray, List.set_cons_zero, List.set_cons_succ]
          refine wpAnyL_free (i := 1) (v := ?_) rfl (by kernel_rfl) (by kernel_rfl) (by kernel_rfl) (fun _ _ _ h => h) (by rfl) ?_ ?_
          rotate_left
          · intro w'; go_simp; try with_reducible rfl
          try simp only [Act.put, List.setIfInBounds_toArray, List.set_cons_zero, List.set_cons_succ]
          refine wpAnyL_free (i := 2) (v := ?_) rfl (by kernel_rfl) (by kernel_rfl) (by kernel_rfl) (fun _ _ _ h => h) (by rfl) ?_ ?_
          rotate_left
          · intro w'; go_simp; try with_reducible rfl
          try simp only [Act.put, List.setIfInBounds_toArray, List.set_cons_zero, List.set_cons_succ]
          refine wpAnyL_take (i := 3) (v := ?_) rfl (by kernel_rfl) (by kernel_rfl) (by kernel_rfl) (by kernel_rfl) (fun _ _ _ h => h) (by rfl) ?_ hS ?_
          rotate_left
          · intro w' hS'; go_simp; try with_reducible rfl
          try simp only [Act.put, List.setIfInBounds_toArray, List.set_cons_zero, List.set_cons_succ]
          refine wpAnyL_free (i := 4) (v := ?_) rfl (by kernel_rfl) (by kernel_rfl) (by kernel_rfl) (fun _ _ _ h => h) (by rfl) ?_ ?_
          rotate_left
          · intro w'; go_simp; try with_reducible rfl
          try simp only [Act.put, List.setIfInBounds_toArray, List.set_cons_zero, List.set_cons_succ]
          refine wpAnyL_take (i := 5) (v := ?_) rfl (by kernel_rfl) (by kernel_rfl) (by kernel_rfl) (by kernel_rfl) (fun _ _ _ h => h) (by rfl) ?_ hS ?_
          rotate_left
          · intro w' hS'; go_simp; try with_reducible rfl
          try simp only [Act.put, List.setIfInBounds_toArray, List.set_cons_zero, List.set_cons_succ]
          refine wpAnyL_free (i := 6) (v := ?_) rfl (by kernel_rfl) (by kernel_rfl) (by kernel_rfl) (fun _ _ _ h => h) (by rfl) ?_ ?_
          rotate_left
          · intro w'; go_simp; try with_reducible rfl
          try simp only [Act.put, List.setIfInBounds_toArray, List.set_cons_zero, List.set_cons_succ]
          refine wpAnyL_free (i := 7) (v := ?_) rfl (by kernel_rfl) (by kernel_rfl) (by kernel_rfl) (fun _ _ _ h => h) (by rfl) ?_ ?_
          rotate_left
          · intro w'; go_simp; try with_reducible rfl
          try simp only [Act.put, List.setIfInBounds_toArray, List.set_cons_zero, List.set_cons_succ]
          refine wpAnyL_take (i := 8) (v := ?_) rfl (by kernel_rfl) (by kernel_rfl) (by kernel_rfl) (by kernel_rfl) (fun _ _ _ h => h) (by rfl) ?_ hS ?_
          rotate_left
          · intro w' hS'; go_simp; try with_reducible rfl
          try simp only [Act.put, List.setIfInBounds_toArray, List.set_cons_zero, List.set_cons_succ]
          refine wpAnyL_free (i := 9) (v := ?_) rfl (by kernel_rfl) (by kernel_rfl) (by kernel_rfl) (fun _ _ _ h => h) (by rfl) ?_ ?_
          rotate_left
          · intro w'; go_simp; try with_reducible rfl
          try simp only [Act.put, List.setIfInBounds_toArray, List.set_cons_zero, List.set_cons_succ]
          refine wpAnyL_free (i := 10) (v := ?_) rfl (by kernel_rfl) (by kernel_rfl) (by kernel_rfl) (fun _ _ _ h => h) (by rfl) ?_ ?_
          rotate_left
          · intro w'; go_simp; try with_reducible rfl
          try simp only [Act.put, List.setIfInBounds_toArray, List.set_cons_zero, List.set_cons_succ]
          refine wpAnyL_free (i := 11) (v := ?_) rfl (by kernel_rfl) (by kernel_rfl) (by kernel_rfl) (fun _ _ _ h => h) (by rfl) ?_ ?_
          rotate_left
          · intro w'; go_simp; try with_reducible rfl
          try simp only [Act.put, List.setIfInBounds_toArray, List.set_cons_zero, List.set_cons_succ]
          refine wpAnyL_free (i := 12) (v := ?_) rfl (by kernel_rfl) (by kernel_rfl) (by kernel_rfl) (fun _ _ _ h => h) (by rfl) ?_ ?_
          rotate_left
          · intro w'; go_simp; try with_reducible rfl
          try simp only [Act.put, List.setIfInBounds_toArray, List.set_cons_zero, List.set_cons_succ]
          refine wpAnyL_free (i := 13) (v := ?_) rfl (by kernel_rfl) (by kernel_rfl) (by kernel_rfl) (fun _ _ _ h => h) (by rfl) ?_ ?_
          rotate_left
          · intro w'; go_simp; try with_reducible rfl
          try simp only [Act.put, List.setIfInBounds_toArray, List.set_cons_zero, List.set_cons_succ]
          refine wpAnyL_done (by kernel_rfl) ?_ _
          refine NoPanic.normal ?_
          clear hS x1 x2 x3 x4 x5 x6
          have hb4 := KA.at (KW.at hb2.out (by simp; omega)) (by simp; omega)
          have v1 : w4.cell? ⟨w.heap.size, 0, none⟩ = some (.int .u64 0) := cell_at hb4 0 rfl
          have v2 : w4.cell? ⟨w.heap.size, 1, none⟩ = some (.int .i64 0) := cell_at hb4 1 rfl
          have v3 : w4.cell? ⟨w.heap.size, 2, none⟩ = some (.pointer none) := cell_at hb4 2 rfl
          go_wp2_with fail
          refine (add_any 0 a2 (by omega) (by omega) (by omega) (by omega) _).mono ?_
          rintro _ w5 ⟨rfl, b5⟩
          have e0 : tm (0 + a2) = .agg #[.int .u64 (a2 % 1000000000), .int .i64 (a2 / 1000000000), .pointer none] := by rw [Int.zero_add]; rfl
          rw [e0]
          clear e0 v1 v2 v3
          have K5 : Kept [] w4 w5 := (Kept.drew _ _).trans (Kept.ofBelow b5)
          have he5 := K5.at he4.out (by simp)
          have x0 : w5.cell? ⟨e, 0, none⟩ = some (.int .u64 (a1 % 1000000000)) := cell_at he5 0 rfl
          have x1 : w5.cell? ⟨e, 1, none⟩ = some (.int .i64 (a1 / 1000000000)) := cell_at he5 1 rfl
          have x2 : w5.cell? ⟨e, 2, none⟩ = some (.pointer none) := cell_at he5 2 rfl
          have x4 : w5.cell? ⟨e, 4, none⟩ = some (.slice (some ⟨g', 0, none⟩) 1 gc') := cell_at he5 4 rfl
          have f0 : w5.frozen? ⟨e, 0, none⟩ = false := frozen_at he5 0
          have f1 : w5.frozen? ⟨e, 1, none⟩ = false := frozen_at he5 1
          have f2 : w5.frozen? ⟨e, 2, none⟩ = false := frozen_at he5 2
          have hf5 := K5.owns hf4.out (by simp)
          have x5 : w5.cell? ⟨g', 0, none⟩ = some (.func (.func 13) #[] #[.pointer (some ⟨bx, 0, none⟩)]) := hf5.cells (g := g') rfl 0 _ rfl
          have ng : ¬ e = g' := fun h => p11 h.symm
          clear b5
          replace he5 : Hid _ := he5
          replace hf5 : Hid _ := hf5
          go_wp2_with fail
          have K6 : Kept [e] w5 (((w5.setCell ⟨e, 0, none⟩ (.int .u64 (a2 % 1000000000))).setCell ⟨e, 1, none⟩ (.int .i64 (a2 / 1000000000))).setCell ⟨e, 2, none⟩ (.pointer none)) := ((Kept.setCell _ _ _ (by simp)).trans (Kept.setCell _ _ _ (by simp))).trans (Kept.setCell _ _ _ (by simp))
          have he6 := set_at (set_at (set_at he5.out 0 (.int .u64 (a2 % 1000000000))) 1 (.int .i64 (a2 / 1000000000))) 2 (.pointer none)
          generalize (((w5.setCell ⟨e, 0, none⟩ (.int .u64 (a2 % 1000000000))).setCell ⟨e, 1, none⟩ (.int .i64 (a2 / 1000000000))).setCell ⟨e, 2, none⟩ (.pointer none)) = w6 at *
          clear x0 x1 x2 x4 x5 f0 f1 f2
          have K46 : Kept [e] w4 w6 := (K5.mono (by simp)).trans K6
          have KW6 : Kept [R, e] W w6 := KA.trans (K46.mono (by simp))
          have hg0 : W.heap.size ≤ g := by rcases p7 with h | h; simp [Value.ownBlock] at h; exact h
          have hg1 : W.heap.size ≤ g' := by rcases p8 with h | h; simp [Value.ownBlock] at h; exact h
          have hrq6 : ∀ i, i < m + 1 → IsReq q c k w2.heap.size R i (zs.getD i 0) w6 := fun i hi => (hrq.out i hi).kept KW6 (by simp; omega) (by simp; omega)
          have hmem : ∀ x, x ∈ (Value.slice (some ⟨g, 0, none⟩) 1 gc).ownBlock.toList ++ (Value.slice (some ⟨g', 0, none⟩) 1 gc').ownBlock.toList → x = g ∨ x = g' := fun x hx => by simpa [Value.ownBlock] using hx
          have z6 := KW6.size
          have ho6 := K6.owns (K5.owns ho4.out (by simp)) (fun k hk => by simp [Value.ownBlock] at hk; simp; omega)
          have hf6 := K6.owns hf5.out (fun k hk => by simp [Value.ownBlock] at hk; simp; omega)
          refine (fire_any w.heap.size R e c k q bx (m + 1) w2.heap.size R a2 zs (.slice (some ⟨g, 0, none⟩) 1 gc) (.slice (some ⟨g', 0, none⟩) 1 gc') [t - a1] [.func (.func 13) #[] #[.pointer (some ⟨bx, 0, none⟩)]] w6 (K46.at hbx4.out (by simp; omega)) (K46.at hR4.out (by simp; omega)) he6 (K46.at hcW4.out (by simp; omega)) hrq6 (by omega) (by omega) hn (by omega) (by omega) (by omega) (by omega) ho6 hf6 (fun x hx => by simp [Value.ownBlock] at hx ⊢; omega) (fun x hx => by rcases hmem x hx with h | h <;> subst h <;> omega) (by have := KWB.size; omega) (by simp) (by simp) (by omega) (by omega) (fun i => by have := hz0.out i; omega) (fun i => by have := hz1.out i; omega)).mono ?_
          rintro _ w7 ⟨rfl, kf, hP⟩
          obtain ⟨hkn, hle, vc, c7, co7, hcase⟩ := hP
          obtain ⟨va, vcap, rfl, hva⟩ := owns_form co7
          have hle' : Hid _ := hle
          clear hle
          have hofs : ∀ i, i < m + 1 → w6.cell? ⟨b, o + i, none⟩ = some (.int .i32 (zs.getD i 0)) := fun i hi => KW6.cell ((KWB.cell (p := ⟨b, o + i, none⟩) hb).trans (hcell.out i hi)) (by simp; omega)
          have hk6 := KW6.at (KW.at hk2.out (by simp; omega)) (by simp; omega)
          clear he4 hf4 ho4 hbx4 hcW4 hR4 he5 hf5 K3 K3' K4 K5 K6 hw1 hw2 hw3 htj hb4 hR heW hcW hcell he2 hc2 hk2 hb2 hq2
          replace hrq6 : Hid _ := hrq6
          replace hofs : Hid _ := hofs
          replace hva : Hid _ := hva
          replace c7 : Hid _ := c7
          replace co7 : Hid _ := co7
          replace ho6 : Hid _ := ho6
          replace hf6 : Hid _ := hf6
          replace hk6 : Hid _ := hk6
          replace he6 : Hid _ := he6
          replace hz0 : Hid _ := hz0
          rcases hcase with ⟨hkf, hR7, K7⟩ | ⟨hkf, hlt, hR7, g2, c1, g3, c2, he7, ho7, K7⟩
          · subst hkf
            have he7 := K7.at he6.out (by simp; omega)
            have hk7 := K7.at hk6.out (by simp; omega)
            have ew : wtv q (m + 1) (m + 1) = .slice (some ⟨q, m, none⟩) 0 0 := by simp [wtv]
            rw [ew] at hR7
            have x1 : w7.cell? ⟨R, 23, none⟩ = some (.slice (some ⟨q, m, none⟩) 0 0) := cell_at hR7 23 rfl
            have x2 : w7.cell? ⟨R, 24, none⟩ = some (.bool false) := cell_at hR7 24 rfl
            have x3 : w7.cell? ⟨e, 3, none⟩ = some (.slice (some ⟨g, 0, none⟩) 1 gc) := cell_at he7 3 rfl
            have x4 : w7.cell? ⟨k, 0, none⟩ = some (.bool true) := cell_at hk7 0 rfl
            have x5 : w7.cell? ⟨c, 0, none⟩ = some (.slice va (m + 1) vcap) := cell_at c7.out 0 rfl
            have hofs7 : ∀ i, i < m + 1 → w7.cell? ⟨b, o + i, none⟩ = some (.int .i32 (zs.getD i 0)) := fun i hi => K7.cell (hofs.out i hi) (by simp; omega)
            replace hofs7 : Hid _ := hofs7
            have fin : Below w.heap.size w w7 := KWB.trans ((KW6.below (by omega) (by simp; omega)).trans (K7.below (by omega) (by simp; omega)))
            clear he7 hk7 hR7 ew
            go_wp2_with fail
            go_loop [17] (fun v => ∃ kk : Nat, v = .int .i64 kk ∧ kk ≤ m + 1) (fun v => m + 1 - (intOf v).toNat)
            case atStart => exact ⟨0, rfl, Nat.zero_le _⟩
            case round =>
              obtain ⟨kk, rfl, hkk⟩ := hrel
              by_cases hlt : kk < m + 1
              · have y1 := hofs7.out kk hlt
                have y2 := hle'.out kk hlt
                generalize zs.getD kk 0 = tk at y1 y2
                go_wp2_with fail
                go_round
                case rel => exact ⟨kk + 1, by go_num, by omega⟩
                case measure => simp [intOf]; omega
              · obtain rfl : kk = m + 1 := by omega
                go_wp2_with fail
                go_loop [18] (fun v => ∃ jj : Nat, v = .int .i64 jj ∧ jj ≤ m + 1) (fun v => m + 1 - (intOf v).toNat)
                case atStart => exact ⟨0, rfl, Nat.zero_le _⟩
                case round =>
                  obtain ⟨jj, rfl, hjj⟩ := hrel
                  by_cases hlt : jj < m + 1
                  · obtain ⟨gb, rfl, hgb⟩ := hva.out jj hlt
                    rw [upto_at _ _ hlt] at hgb
                    go_wp2_with fail
                    go_round
                    case rel => exact ⟨jj + 1, by go_num, by omega⟩
                    case measure => simp [intOf]; omega
                  · obtain rfl : jj = m + 1 := by omega
                    go_wp2_with fail
                    refine wp_loop_once ?_
                    go_wp2_with fail
                    go_ret
                    exact ⟨rfl, fin⟩
          · obtain ⟨r, rfl⟩ : ∃ r, m = kf + r := ⟨m - kf, by omega⟩
            have hk7 := K7.at hk6.out (by simp [Value.ownBlock]; omega)
            have ew : wtv q (kf + r + 1) kf = .slice (some ⟨q, kf, none⟩) (r + 1) (r + 1) := by
              have u1 : ¬ kf = kf + r + 1 := by omega
              have u2 : kf + r + 1 - kf = r + 1 := by omega
              simp [wtv, u1, u2]
            rw [ew] at hR7
            simp only [List.length_cons, List.length_nil, Nat.zero_add, Nat.reduceAdd, List.map_cons, List.map_nil, List.cons_append, List.nil_append] at he7 ho7
            have x1 : w7.cell? ⟨R, 23, none⟩ = some (.slice (some ⟨q, kf, none⟩) (r + 1) (r + 1)) := cell_at hR7 23 rfl
            have x2 : w7.cell? ⟨R, 24, none⟩ = some (.bool true) := cell_at hR7 24 rfl
            have x3 : w7.cell? ⟨e, 3, none⟩ = some (.slice (some ⟨g2, 0, none⟩) 2 c1) := cell_at he7 3 rfl
            have x4 : w7.cell? ⟨k, 0, none⟩ = some (.bool true) := cell_at hk7 0 rfl
            have x5 : w7.cell? ⟨c, 0, none⟩ = some (.slice va kf vcap) := cell_at c7.out 0 rfl
            have x6 : w7.cell? ⟨g2, 1, none⟩ = some (.int .i64 (zs.getD kf 0 - a2)) := ho7.cells (g := g2) rfl 1 _ rfl
            have hnb : b ∉ c :: R :: e :: ((Value.slice (some ⟨g, 0, none⟩) 1 gc).ownBlock.toList ++ (Value.slice (some ⟨g', 0, none⟩) 1 gc').ownBlock.toList) := by simp [Value.ownBlock]; omega
            have hnq : q ∉ c :: R :: e :: ((Value.slice (some ⟨g, 0, none⟩) 1 gc).ownBlock.toList ++ (Value.slice (some ⟨g', 0, none⟩) 1 gc').ownBlock.toList) := by simp [Value.ownBlock]; omega
            have hofs7 : ∀ i, i < kf + r + 1 → w7.cell? ⟨b, o + i, none⟩ = some (.int .i32 (zs.getD i 0)) := fun i hi => K7.cell (hofs.out i hi) hnb
            have hqs7 : ∀ i, i < kf + r + 1 → ∃ rb, w7.cell? ⟨q, i, none⟩ = some (.pointer (some ⟨rb, 0, none⟩)) := fun i hi => by
              obtain ⟨rb, _, _, _, h, _⟩ := hrq6.out i hi
              exact ⟨rb, K7.cell h hnq⟩
            have fin : Below w.heap.size w w7 := KWB.trans ((KW6.below (by omega) (by simp; omega)).trans (K7.below (by omega) (by simp [Value.ownBlock]; omega)))
            replace hofs7 : Hid _ := hofs7
            replace hqs7 : Hid _ := hqs7
            have zk0 := hz0.out kf
            have zk1 := hz1.out kf
            have y1 := hofs7.out kf (by omega)
            generalize htk : zs.getD kf 0 = tk at *
            replace htk : Hid _ := htk
            clear he7 ho7 hk7 hR7 ew hnb hnq
            go_wp2_with fail
            go_loop [17] (fun v => ∃ kk : Nat, v = .int .i64 kk ∧ kk ≤ kf) (fun v => kf - (intOf v).toNat)
            case atStart => exact ⟨0, rfl, Nat.zero_le _⟩
            case round =>
              obtain ⟨kk, rfl, hkk⟩ := hrel
              by_cases hlt2 : kk < kf
              · have y3 := hofs7.out kk (by omega)
                have y2 := hle'.out kk hlt2
                generalize zs.getD kk 0 = tk2 at y2 y3
                go_wp2_with fail
                go_round
                case rel => exact ⟨kk + 1, by go_num, by omega⟩
                case measure => simp [intOf]; omega
              · obtain rfl : kk = kf := by omega
                go_wp2_with fail
                go_loop [18] (fun v => ∃ jj : Nat, v = .int .i64 jj ∧ jj ≤ kk) (fun v => kk - (intOf v).toNat)
                case atStart => exact ⟨0, rfl, Nat.zero_le _⟩
                case round =>
                  obtain ⟨jj, rfl, hjj⟩ := hrel
                  by_cases hlt3 : jj < kk
                  · obtain ⟨gb, rfl, hgb⟩ := hva.out jj hlt3
                    rw [upto_at _ _ hlt3] at hgb
                    go_wp2_with fail
                    go_round
                    case rel => exact ⟨jj + 1, by go_num, by omega⟩
                    case measure => simp [intOf]; omega
                  · obtain rfl : jj = kk := by omega
                    go_wp2_with fail
                    go_loopw [19] (fun v wl => ∃ ll : Nat, v = .int .i64 ll ∧ ll ≤ r + 1 ∧ Hid (∀ a, wl.cell? a = w7.cell? a) ∧ Below w.heap.size w wl) (fun v _ => r + 1 - (intOf v).toNat)
                    case atStart => exact ⟨0, rfl, Nat.zero_le _, fun _ => rfl, fin⟩
                    case round =>
                      obtain ⟨ll, rfl, hll, hcl, hbl⟩ := hrel
                      have d1 := (hcl.out ⟨R, 23, none⟩).trans x1
                      by_cases hlt4 : ll < r + 1
                      · obtain ⟨rb2, hrb2⟩ := hqs7.out (jj + ll) (by omega)
                        have d2 := (hcl.out ⟨q, jj + ll, none⟩).trans hrb2
                        have hw1 : IntKind.i64.wrap ((jj : Int) + ll) = (jj : Int) + ll := IntWalk.i64_in _ ⟨by omega, by omega⟩
                        have hi1 : (0 : Int) ≤ (ll : Int) := by omega
                        have hpn := neq_same ⟨rb2, 0, none⟩
                        have hi2 : (ll : Int) < (r : Int) + 1 := by omega
                        go_wp2_with fail
                        refine wp_region_noPanic (wp_region_last (fun w' => w'.cell? ⟨R, 23, none⟩ = some (.slice (some ⟨q, jj, none⟩) (r + 1) (r + 1)) ∧ w'.cell? ⟨q, jj + ll, none⟩ = some (.pointer (some ⟨rb2, 0, none⟩))) [3, 6, 12] (by kernel_rfl) ?_)
                        have hS := And.intro d1 d2
                        refine wpAnyL_free (i := 0) (v := ?_) rfl (by kernel_rfl) (by kernel_rfl) (by kernel_rfl) (fun _ _ _ h => h) (by rfl) ?_ ?_
                        rotate_left
                        · intro w'; go_simp; try with_reducible rfl
                        try simp only [Act.put, List.setIfInBounds_toArray, List.set_cons_zero, List.set_cons_succ]
                        refine wpAnyL_free (i := 1) (v := ?_) rfl (by kernel_rfl) (by kernel_rfl) (by kernel_rfl) (fun _ _ _ h => h) (by rfl) ?_ ?_
                        rotate_left
                        · intro w'; go_simp; try with_reducible rfl
                        try simp only [Act.put, List.setIfInBounds_toArray, List.set_cons_zero, List.set_cons_succ]
                        refine wpAnyL_free (i := 2) (v := ?_) rfl (by kernel_rfl) (by kernel_rfl) (by kernel_rfl) (fun _ _ _ h => h) (by rfl) ?_ ?_
                        rotate_left
                        · intro w'; go_simp; try with_reducible rfl
                        try simp only [Act.put, List.setIfInBounds_toArray, List.set_cons_zero, List.set_cons_succ]
                        refine wpAnyL_take (i := 3) (v := ?_) rfl (by kernel_rfl) (by kernel_rfl) (by kernel_rfl) (by kernel_rfl) (fun _ _ _ h => h) (by rfl) ?_ hS ?_
                        rotate_left
                        · intro w' hS'; go_simp; try with_reducible rfl
                        try simp only [Act.put, List.setIfInBounds_toArray, List.set_cons_zero, List.set_cons_succ]
                        refine wpAnyL_free (i := 4) (v := ?_) rfl (by kernel_rfl) (by kernel_rfl) (by kernel_rfl) (fun _ _ _ h => h) (by rfl) ?_ ?_
                        rotate_left
                        · intro w'; go_simp; try with_reducible rfl
                        try simp only [Act.put, List.setIfInBounds_toArray, List.set_cons_zero, List.set_cons_succ]
                        refine wpAnyL_free (i := 5) (v := .pointer (some ⟨q, jj + ll, none⟩)) rfl (by kernel_rfl) (by kernel_rfl) (by kernel_rfl) (fun _ _ _ h => h) (by rfl) (by intro w'; go_simp) ?_
                        try simp only [Act.put, List.setIfInBounds_toArray, List.set_cons_zero, List.set_cons_succ]
                        refine wpAnyL_take (i := 6) (v := ?_) rfl (by kernel_rfl) (by kernel_rfl) (by kernel_rfl) (by kernel_rfl) (fun _ _ _ h => h) (by rfl) ?_ hS ?_
                        rotate_left
                        · intro w' hS'; go_simp; try with_reducible rfl
                        try simp only [Act.put, List.setIfInBounds_toArray, List.set_cons_zero, List.set_cons_succ]
                        refine wpAnyL_free (i := 7) (v := ?_) rfl (by kernel_rfl) (by kernel_rfl) (by kernel_rfl) (fun _ _ _ h => h) (by rfl) ?_ ?_
                        rotate_left
                        · intro w'; go_simp; try with_reducible rfl
                        try simp only [Act.put, List.setIfInBounds_toArray, List.set_cons_zero, List.set_cons_succ]
                        refine wpAnyL_free (i := 8) (v := ?_) rfl (by kernel_rfl) (by kernel_rfl) (by kernel_rfl) (fun _ _ _ h => h) (by rfl) ?_ ?_
                        rotate_left
                        · intro w'; go_simp; try with_reducible rfl
                        try simp only [Act.put, List.setIfInBounds_toArray, List.set_cons_zero, List.set_cons_succ]
                        refine wpAnyL_free (i := 9) (v := ?_) rfl (by kernel_rfl) (by kernel_rfl) (by kernel_rfl) (fun _ _ _ h => h) (by rfl) ?_ ?_
                        rotate_left
                        · intro w'; go_simp; try with_reducible rfl
                        try simp only [Act.put, List.setIfInBounds_toArray, List.set_cons_zero, List.set_cons_succ]
                        refine wpAnyL_free (i := 10) (v := ?_) rfl (by kernel_rfl) (by kernel_rfl) (by kernel_rfl) (fun _ _ _ h => h) (by rfl) ?_ ?_
                        rotate_left
                        · intro w'; go_simp; try with_reducible rfl
                        try simp only [Act.put, List.setIfInBounds_toArray, List.set_cons_zero, List.set_cons_succ]
                        refine wpAnyL_free (i := 11) (v := .pointer (some ⟨q, jj + ll, none⟩)) rfl (by kernel_rfl) (by kernel_rfl) (by kernel_rfl) (fun _ _ _ h => h) (by rfl) (by intro w'; go_simp; rw [if_pos ⟨by omega, by omega⟩, show ((jj : Int) + ll).toNat = jj + ll by omega]) ?_
                        try simp only [Act.put, List.setIfInBounds_toArray, List.set_cons_zero, List.set_cons_succ]
                        refine wpAnyL_take (i := 12) (v := ?_) rfl (by kernel_rfl) (by kernel_rfl) (by kernel_rfl) (by kernel_rfl) (fun _ _ _ h => h) (by rfl) ?_ hS ?_
                        rotate_left
                        · intro w' hS'; go_simp; try with_reducible rfl
                        try simp only [Act.put, List.setIfInBounds_toArray, List.set_cons_zero, List.set_cons_succ]
                        refine wpAnyL_free (i := 13) (v := ?_) rfl (by kernel_rfl) (by kernel_rfl) (by kernel_rfl) (fun _ _ _ h => h) (by rfl) ?_ ?_
                        rotate_left
                        · intro w'; go_simp; try with_reducible rfl
                        try simp only [Act.put, List.setIfInBounds_toArray, List.set_cons_zero, List.set_cons_succ]
                        refine wpAnyL_done (by kernel_rfl) ?_ _
                        refine NoPanic.normal ?_
                        have fl : Hid (∀ a, wr.drew.cell? a = w7.cell? a) := fun a => hcl.out a
                        have fb : Below w.heap.size w wr.drew := hbl.drew
                        clear hS d1 d2 hw1
                        go_wp2_with fail
                        go_roundw
                        case rel => exact ⟨ll + 1, by go_num, by omega, fl, fb⟩
                        case measure => simp [intOf]; omega
                      · obtain rfl : ll = r + 1 := by omega
                        have d2 := (hcl.out ⟨R, 24, none⟩).trans x2
                        have d3 := (hcl.out ⟨e, 3, none⟩).trans x3
                        have d4 := (hcl.out ⟨g2, 1, none⟩).trans x6
                        have d5 := (hcl.out ⟨b, o + jj, none⟩).trans y1
                        have hw1 : IntKind.i64.wrap tk = tk := IntWalk.i64_in _ ⟨by omega, by omega⟩
                        have hw2 : IntKind.i64.wrap a2 = a2 := IntWalk.i64_in _ ⟨by omega, by omega⟩
                        have hw3 : IntKind.i64.wrap (tk - a2) = tk - a2 := IntWalk.i64_in _ ⟨by omega, by omega⟩
                        go_wp2_with fail
                        refine wp_region_noPanic (wp_region_last (fun w' => w'.cell? ⟨e, 3, none⟩ = some (.slice (some ⟨g2, 0, none⟩) 2 c1) ∧ w'.cell? ⟨R, 24, none⟩ = some (.bool true) ∧ w'.cell? ⟨g2, 1, none⟩ = some (.int .i64 (tk - a2)) ∧ w'.cell? ⟨b, o + jj, none⟩ = some (.int .i32 tk)) [3, 10, 16, 18, 22] (by kernel_rfl) ?_)
                        have hS := And.intro d3 (And.intro d2 (And.intro d4 d5))
                        refine wpAnyL_free (i := 0) (v := ?_) rfl (by kernel_rfl) (by kernel_rfl) (by kernel_rfl) (fun _ _ _ h => h) (by rfl) ?_ ?_
                        rotate_left
                        · intro w'; go_simp; try with_reducible rfl
                        try simp only [Act.put, List.setIfInBounds_toArray, List.set_cons_zero, List.set_cons_succ]
                        refine wpAnyL_free (i := 1) (v := ?_) rfl (by kernel_rfl) (by kernel_rfl) (by kernel_rfl) (fun _ _ _ h => h) (by rfl) ?_ ?_
                        rotate_left
                        · intro w'; go_simp; try with_reducible rfl
                        try simp only [Act.put, List.setIfInBounds_toArray, List.set_cons_zero, List.set_cons_succ]
                        refine wpAnyL_free (i := 2) (v := ?_) rfl (by kernel_rfl) (by kernel_rfl) (by kernel_rfl) (fun _ _ _ h => h) (by rfl) ?_ ?_
                        rotate_left
                        · intro w'; go_simp; try with_reducible rfl
                        try simp only [Act.put, List.setIfInBounds_toArray, List.set_cons_zero, List.set_cons_succ]
                        refine wpAnyL_take (i := 3) (v := ?_) rfl (by kernel_rfl) (by kernel_rfl) (by kernel_rfl) (by kernel_rfl) (fun _ _ _ h => h) (by rfl) ?_ hS ?_
                        rotate_left
                        · intro w' hS'; go_simp; try with_reducible rfl
                        try simp only [Act.put, List.setIfInBounds_toArray, List.set_cons_zero, List.set_cons_succ]
                        refine wpAnyL_free (i := 4) (v := ?_) rfl (by kernel_rfl) (by kernel_rfl) (by kernel_rfl) (fun _ _ _ h => h) (by rfl) ?_ ?_
                        rotate_left
                        · intro w'; go_simp; try with_reducible rfl
                        try simp only [Act.put, List.setIfInBounds_toArray, List.set_cons_zero, List.set_cons_succ]
                        refine wpAnyL_free (i := 5) (v := ?_) rfl (by kernel_rfl) (by kernel_rfl) (by kernel_rfl) (fun _ _ _ h => h) (by rfl) ?_ ?_
                        rotate_left
                        · intro w'; go_simp; try with_reducible rfl
                        try simp only [Act.put, List.setIfInBounds_toArray, List.set_cons_zero, List.set_cons_succ]
                        refine wpAnyL_free (i := 6) (v := ?_) rfl (by kernel_rfl) (by kernel_rfl) (by kernel_rfl) (fun _ _ _ h => h) (by rfl) ?_ ?_
                        rotate_left
                        · intro w'; go_simp; try with_reducible rfl
                        try simp only [Act.put, List.setIfInBounds_toArray, List.set_cons_zero, List.set_cons_succ]
                        refine wpAnyL_free (i := 7) (v := ?_) rfl (by kernel_rfl) (by kernel_rfl) (by kernel_rfl) (fun _ _ _ h => h) (by rfl) ?_ ?_
                        rotate_left
                        · intro w'; go_simp; try with_reducible rfl
                        try simp only [Act.put, List.setIfInBounds_toArray, List.set_cons_zero, List.set_cons_succ]
                        refine wpAnyL_free (i := 8) (v := ?_) rfl (by kernel_rfl) (by kernel_rfl) (by kernel_rfl) (fun _ _ _ h => h) (by rfl) ?_ ?_
                        rotate_left
                        · intro w'; go_simp; try with_reducible rfl
                        try simp only [Act.put, List.setIfInBounds_toArray, List.set_cons_zero, List.set_cons_succ]
                        refine wpAnyL_free (i := 9) (v := ?_) rfl (by kernel_rfl) (by kernel_rfl) (by kernel_rfl) (fun _ _ _ h => h) (by rfl) ?_ ?_
                        rotate_left
                        · intro w'; go_simp; try with_reducible rfl
                        try simp only [Act.put, List.setIfInBounds_toArray, List.set_cons_zero, List.set_cons_succ]
                        refine wpAnyL_take (i := 10) (v := ?_) rfl (by kernel_rfl) (by kernel_rfl) (by kernel_rfl) (by kernel_rfl) (fun _ _ _ h => h) (by rfl) ?_ hS ?_
                        rotate_left
                        · intro w' hS'; go_simp; try with_reducible rfl
                        try simp only [Act.put, List.setIfInBounds_toArray, List.set_cons_zero, List.set_cons_succ]
                        refine wpAnyL_free (i := 11) (v := ?_) rfl (by kernel_rfl) (by kernel_rfl) (by kernel_rfl) (fun _ _ _ h => h) (by rfl) ?_ ?_
                        rotate_left
                        · intro w'; go_simp; try with_reducible rfl
                        try simp only [Act.put, List.setIfInBounds_toArray, List.set_cons_zero, List.set_cons_succ]
                        refine wpAnyL_free (i := 12) (v := ?_) rfl (by kernel_rfl) (by kernel_rfl) (by kernel_rfl) (fun _ _ _ h => h) (by rfl) ?_ ?_
                        rotate_left
                        · intro w'; go_simp; try with_reducible rfl
                        try simp only [Act.put, List.setIfInBounds_toArray, List.set_cons_zero, List.set_cons_succ]
                        refine wpAnyL_free (i := 13) (v := ?_) rfl (by kernel_rfl) (by kernel_rfl) (by kernel_rfl) (fun _ _ _ h => h) (by rfl) ?_ ?_
                        rotate_left
                        · intro w'; go_simp; try with_reducible rfl
                        try simp only [Act.put, List.setIfInBounds_toArray, List.set_cons_zero, List.set_cons_succ]
                        refine wpAnyL_free (i := 14) (v := ?_) rfl (by kernel_rfl) (by kernel_rfl) (by kernel_rfl) (fun _ _ _ h => h) (by rfl) ?_ ?_
                        rotate_left
                        · intro w'; go_simp; try with_reducible rfl
                        try simp only [Act.put, List.setIfInBounds_toArray, List.set_cons_zero, List.set_cons_succ]
                        refine wpAnyL_free (i := 15) (v := ?_) rfl (by kernel_rfl) (by kernel_rfl) (by kernel_rfl) (fun _ _ _ h => h) (by rfl) ?_ ?_
                        rotate_left
                        · intro w'; go_simp; try with_reducible rfl
                        try simp only [Act.put, List.setIfInBounds_toArray, List.set_cons_zero, List.set_cons_succ]
                        refine wpAnyL_take (i := 16) (v := ?_) rfl (by kernel_rfl) (by kernel_rfl) (by kernel_rfl) (by kernel_rfl) (fun _ _ _ h => h) (by rfl) ?_ hS ?_
                        rotate_left
                        · intro w' hS'; go_simp; try with_reducible rfl
                        try simp only [Act.put, List.setIfInBounds_toArray, List.set_cons_zero, List.set_cons_succ]
                        refine wpAnyL_free (i := 17) (v := ?_) rfl (by kernel_rfl) (by kernel_rfl) (by kernel_rfl) (fun _ _ _ h => h) (by rfl) ?_ ?_
                        rotate_left
                        · intro w'; go_simp; try with_reducible rfl
                        try simp only [Act.put, List.setIfInBounds_toArray, List.set_cons_zero, List.set_cons_succ]
                        refine wpAnyL_take (i := 18) (v := ?_) rfl (by kernel_rfl) (by kernel_rfl) (by kernel_rfl) (by kernel_rfl) (fun _ _ _ h => h) (by rfl) ?_ hS ?_
                        rotate_left
                        · intro w' hS'; go_simp; try with_reducible rfl
                        try simp only [Act.put, List.setIfInBounds_toArray, List.set_cons_zero, List.set_cons_succ]
                        refine wpAnyL_free (i := 19) (v := ?_) rfl (by kernel_rfl) (by kernel_rfl) (by kernel_rfl) (fun _ _ _ h => h) (by rfl) ?_ ?_
                        rotate_left
                        · intro w'; go_simp; try with_reducible rfl
                        try simp only [Act.put, List.setIfInBounds_toArray, List.set_cons_zero, List.set_cons_succ]
                        refine wpAnyL_free (i := 20) (v := ?_) rfl (by kernel_rfl) (by kernel_rfl) (by kernel_rfl) (fun _ _ _ h => h) (by rfl) ?_ ?_
                        rotate_left
                        · intro w'; go_simp; try with_reducible rfl
                        try simp only [Act.put, List.setIfInBounds_toArray, List.set_cons_zero, List.set_cons_succ]
                        refine wpAnyL_free (i := 21) (v := ?_) rfl (by kernel_rfl) (by kernel_rfl) (by kernel_rfl) (fun _ _ _ h => h) (by rfl) ?_ ?_
                        rotate_left
                        · intro w'; go_simp; try with_reducible rfl
                        try simp only [Act.put, List.setIfInBounds_toArray, List.set_cons_zero, List.set_cons_succ]
                        refine wpAnyL_take (i := 22) (v := ?_) rfl (by kernel_rfl) (by kernel_rfl) (by kernel_rfl) (by kernel_rfl) (fun _ _ _ h => h) (by rfl) ?_ hS ?_
                        rotate_left
                        · intro w' hS'; go_simp; try with_reducible rfl
                        try simp only [Act.put, List.setIfInBounds_toArray, List.set_cons_zero, List.set_cons_succ]
                        refine wpAnyL_free (i := 23) (v := ?_) rfl (by kernel_rfl) (by kernel_rfl) (by kernel_rfl) (fun _ _ _ h => h) (by rfl) ?_ ?_
                        rotate_left
                        · intro w'; go_simp; try with_reducible rfl
                        try simp only [Act.put, List.setIfInBounds_toArray, List.set_cons_zero, List.set_cons_succ]
                        refine wpAnyL_free (i := 24) (v := ?_) rfl (by kernel_rfl) (by kernel_rfl) (by kernel_rfl) (fun _ _ _ h => h) (by rfl) ?_ ?_
                        rotate_left
                        · intro w'; go_simp; try with_reducible rfl
                        try simp only [Act.put, List.setIfInBounds_toArray, List.set_cons_zero, List.set_cons_succ]
                        refine wpAnyL_free (i := 25) (v := ?_) rfl (by kernel_rfl) (by kernel_rfl) (by kernel_rfl) (fun _ _ _ h => h) (by rfl) ?_ ?_
                        rotate_left
                        · intro w'; go_simp; try with_reducible rfl
                        try simp only [Act.put, List.setIfInBounds_toArray, List.set_cons_zero, List.set_cons_succ]
                        refine wpAnyL_free (i := 26) (v := ?_) rfl (by kernel_rfl) (by kernel_rfl) (by kernel_rfl) (fun _ _ _ h => h) (by rfl) ?_ ?_
                        rotate_left
                        · intro w'; go_simp; try with_reducible rfl
                        try simp only [Act.put, List.setIfInBounds_toArray, List.set_cons_zero, List.set_cons_succ]
                        refine wpAnyL_free (i := 27) (v := ?_) rfl (by kernel_rfl) (by kernel_rfl) (by kernel_rfl) (fun _ _ _ h => h) (by rfl) ?_ ?_
                        rotate_left
                        · intro w'; go_simp; try with_reducible rfl
                        try simp only [Act.put, List.setIfInBounds_toArray, List.set_cons_zero, List.set_cons_succ]
                        refine wpAnyL_free (i := 28) (v := ?_) rfl (by kernel_rfl) (by kernel_rfl) (by kernel_rfl) (fun _ _ _ h => h) (by rfl) ?_ ?_
                        rotate_left
                        · intro w'; go_simp; try with_reducible rfl
                        try simp only [Act.put, List.setIfInBounds_toArray, List.set_cons_zero, List.set_cons_succ]
                        refine wpAnyL_free (i := 29) (v := ?_) rfl (by kernel_rfl) (by kernel_rfl) (by kernel_rfl) (fun _ _ _ h => h) (by rfl) ?_ ?_
                        rotate_left
                        · intro w'; go_simp; try with_reducible rfl
                        try simp only [Act.put, List.setIfInBounds_toArray, List.set_cons_zero, List.set_cons_succ]
                        refine wpAnyL_done (by kernel_rfl) ?_ _
                        refine NoPanic.normal ?_
                        have fb : Below w.heap.size w wr.drew := hbl.drew
                        clear hS d1 d2 d3 d4 d5
                        go_wp2_with fail
                        go_ret
                        exact ⟨rfl, fb⟩
end Go.Proofs.Ybulkcqmy
