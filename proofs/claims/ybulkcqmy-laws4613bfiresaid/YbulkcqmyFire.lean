import Derived.Test.YbulkcqmyWait
namespace Go.Proofs.Ybulkcqmy
set_option linter.unusedVariables false
set_option linter.unusedSimpArgs false
open Go.RowKit

/-- A request's cells: its closure and its deadline. -/
def RQ (b1 b2 b3 : Nat) (t : Int) : Array Value := #[.bool false, .int .u64 0, .int .u64 0, .int .u64 0, .string ⟨#[]⟩, .int .u64 0, .slice none 0 0, .func (.func 11) #[] #[.pointer (some ⟨b1, 0, none⟩), .pointer (some ⟨b2, 0, none⟩), .pointer (some ⟨b3, 0, none⟩)], .int .u64 (t % 1000000000), .int .i64 (t / 1000000000), .pointer none]

/-- Request number i, whose deadline is t, behind cell i of the row in block q; all its blocks lie in [L, M). -/
def IsReq (q c k L M i : Nat) (t : Int) (w : World) : Prop := ∃ rb b1 b2 b3, w.cell? ⟨q, i, none⟩ = some (.pointer (some ⟨rb, 0, none⟩)) ∧ w.heap[rb]? = some (.cells (RQ b1 b2 b3 t) 45) ∧
  w.heap[b1]? = some (.cells #[.pointer (some ⟨c, 0, none⟩)] 39) ∧ w.heap[b2]? = some (.cells #[.int .i64 i] 3) ∧ w.heap[b3]? = some (.cells #[.pointer (some ⟨k, 0, none⟩)] 40) ∧
  (L ≤ rb ∧ rb < M) ∧ (L ≤ b1 ∧ b1 < M) ∧ (L ≤ b2 ∧ b2 < M) ∧ (L ≤ b3 ∧ b3 < M)

theorem IsReq.kept {q c k L M i : Nat} {t : Int} {w w' : World} {S : List Nat} (h : IsReq q c k L M i t w) (hk : Kept S w w') (hq : q ∉ S) (hS : ∀ x ∈ S, x < L ∨ M ≤ x) : IsReq q c k L M i t w' := by
  obtain ⟨rb, b1, b2, b3, h1, h2, h3, h4, h5, r1, r2, r3, r4⟩ := h
  have ne : ∀ b, L ≤ b ∧ b < M → b ∉ S := fun b hb hx => by have := hS b hx; omega
  exact ⟨rb, b1, b2, b3, hk.cell h1 hq, hk.at h2 (ne _ r1), hk.at h3 (ne _ r2), hk.at h4 (ne _ r3), hk.at h5 (ne _ r4), r1, r2, r3, r4⟩

/-- The waiting slice when j of n are gone. -/
def wtv (q n j : Nat) : Value := .slice (some ⟨q, if j = n then n - 1 else j, none⟩) (n - j) (n - j)

theorem wtv_next (q j m : Nat) : wtv q (j + m + 1) (j + 1) = .slice (if m = 0 then some ⟨q, j, none⟩ else some ⟨q, j + 1, none⟩) m m := by
  unfold wtv
  have a : j + m + 1 - (j + 1) = m := by omega
  rw [a]
  by_cases h : m = 0
  · subst h; simp
  · have b : ¬ j + 1 = j + m + 1 := by omega
    rw [if_neg b, if_neg h]

def lenAt (w : World) (R : Nat) : Nat := match w.cell? ⟨R, 23, none⟩ with | some (.slice _ n _) => n | _ => 0

theorem unavailable_kept (s : ByteArray) (w : World) :
    Calls Yba.prog 15 #[.string s] w fun r w' => r = .returned (.pointer (some ⟨w.heap.size, 0, none⟩)) ∧ w'.heap[w.heap.size]? = some (.cells #[.int .u8 1, .string s] 78) ∧ Kept [] w w' := by
  refine (unavailable_any s w).mono ?_
  rintro _ _ ⟨rfl, rfl⟩
  exact ⟨rfl, alloc_at _ _, Kept.alloc _ _ _⟩

def upto (j : Nat) : List Int := (List.range j).map Int.ofNat

/-- The loop's state when j requests have failed. -/
def FInv (B R e c q n j : Nat) (nw : Int) (ts : List Int) (w0 : World) (vc : Value) (w : World) : Prop :=
  j ≤ n ∧ (∀ i, i < j → ts.getD i 0 ≤ nw) ∧ Kept [R, c] w0 w ∧ w.heap[R]? = some (.cells (RC e (wtv q n j) false) 68) ∧ w.heap[c]? = some (.cells #[vc] 34) ∧
  w.ownsRow B 3 1 vc j ((upto j).map (.int .i64)) ∧ ∀ g, vc.ownBlock = some g → w0.heap.size ≤ g

/-- What the timer's closure leaves: j requests have failed. -/
def FirePost (B R e c q n j : Nat) (nw : Int) (ts : List Int) (vd vf : Value) (ds : List Int) (fs : List Value) (w w' : World) : Prop :=
  j ≤ n ∧ (∀ i, i < j → ts.getD i 0 ≤ nw) ∧ ∃ vc, w'.heap[c]? = some (.cells #[vc] 34) ∧ w'.ownsRow B 3 1 vc j ((upto j).map (.int .i64)) ∧
  ((j = n ∧ w'.heap[R]? = some (.cells (RC e (wtv q n n) false) 68) ∧ Kept [R, c] w w') ∨
   (j < n ∧ nw < ts.getD j 0 ∧ w'.heap[R]? = some (.cells (RC e (wtv q n j) true) 68) ∧ ∃ g c1 g' c2,
      w'.heap[e]? = some (.cells #[.int .u64 (nw % 1000000000), .int .i64 (nw / 1000000000), .pointer none, .slice (some ⟨g, 0, none⟩) (ds.length + 1) c1, .slice (some ⟨g', 0, none⟩) (fs.length + 1) c2] 33) ∧
      w'.ownsRow B 29 1 (.slice (some ⟨g, 0, none⟩) (ds.length + 1) c1) (ds.length + 1) (ds.map (.int .i64) ++ [.int .i64 (ts.getD j 0 - nw)]) ∧
      Kept (c :: R :: e :: (vd.ownBlock.toList ++ vf.ownBlock.toList)) w w'))

set_option maxRecDepth 20000 in
set_option maxHeartbeats 2000000 in
theorem fire_any (B R e c k q bx n L M : Nat) (nw : Int) (ts : List Int) (vd vf : Value) (ds : List Int) (fs : List Value) (w : World)
    (hbx : w.heap[bx]? = some (.cells #[.pointer (some ⟨R, 0, none⟩)] 46)) (hR : w.heap[R]? = some (.cells (RC e (wtv q n 0) true) 68))
    (he : w.heap[e]? = some (.cells #[.int .u64 (nw % 1000000000), .int .i64 (nw / 1000000000), .pointer none, vd, vf] 33)) (hc : w.heap[c]? = some (.cells #[.slice none 0 0] 34))
    (hreq : ∀ i, i < n → IsReq q c k L M i (ts.getD i 0) w) (nR : R ≠ e ∧ R ≠ c ∧ R ≠ bx ∧ R ≠ q) (ne : e ≠ c ∧ e ≠ q ∧ c ≠ bx ∧ c ≠ q) (hn : n ≤ 1024) (hRL : R < L ∨ M ≤ R) (hcL : c < L ∨ M ≤ c) (heL : e < L ∨ M ≤ e) (hM : M ≤ w.heap.size)
    (hd : w.ownsRow B 29 1 vd ds.length (ds.map (.int .i64))) (hf : w.ownsRow B 1 1 vf fs.length fs) (h3 : ∀ g, vd.ownBlock = some g → vf.ownBlock ≠ some g)
    (hrows : ∀ g, g ∈ vd.ownBlock.toList ++ vf.ownBlock.toList → (g < L ∨ M ≤ g) ∧ g ≠ R ∧ g ≠ q ∧ g ≠ e ∧ g ≠ c)
    (hB : B ≤ w.heap.size) (l1 : ds.length ≤ 90) (l2 : fs.length ≤ 90) (hn0 : -3000000000 ≤ nw) (hn1 : nw ≤ 3000000000) (hts0 : ∀ i, -3000000000 ≤ ts.getD i 0) (hts1 : ∀ i, ts.getD i 0 ≤ 3000000000) :
    Calls Yba.prog 13 #[.pointer (some ⟨bx, 0, none⟩)] w fun r w' => r = .returned (.tuple #[]) ∧ ∃ j, FirePost B R e c q n j nw ts vd vf ds fs w w' := by
  have tR := lt_of_at hR
  have tb := lt_of_at hbx
  have tc := lt_of_at hc
  have te := lt_of_at he
  have c1 : w.cell? ⟨R, 24, none⟩ = some (.bool true) := cell_at hR 24 rfl
  have f1 : w.frozen? ⟨R, 24, none⟩ = false := frozen_at hR 24
  have c2 : w.cell? ⟨R, 3, none⟩ = some (.iface 27 (.pointer (some ⟨e, 0, none⟩))) := cell_at hR 3 rfl
  have c3 : w.cell? ⟨bx, 0, none⟩ = some (.pointer (some ⟨R, 0, none⟩)) := cell_at hbx 0 rfl
  have hm1 : ∀ w, (method 322 27 (.pointer (some ⟨e, 0, none⟩)) "Now").run Yba.prog w = .ok (40, .pointer (some ⟨e, 0, none⟩)) w := fun _ => by kernel_rfl
  replace hR : Hid _ := hR
  replace he : Hid _ := he
  replace hc : Hid _ := hc
  replace hbx : Hid _ := hbx
  replace hreq : Hid _ := hreq
  replace hd : Hid _ := hd
  replace hf : Hid _ := hf
  replace h3 : Hid _ := h3
  replace hrows : Hid _ := hrows
  replace hts0 : Hid _ := hts0
  replace hts1 : Hid _ := hts1
  go_enter Yba.func13, Yba.ntmps13
  go_wp2_with fail
  have K0 : Kept [R] w (w.setCell ⟨R, 24, none⟩ (.bool false)) := Kept.setCell _ _ _ (by simp)
  have hR0 := set_at hR.out 24 (.bool false)
  have he0 := K0.at he.out (by simp; exact fun h => nR.1 h.symm)
  refine (now_any e _ _ vd vf _ he0).mono ?_
  rintro _ w1 ⟨rfl, b1⟩
  have K1 : Kept [R] w w1 := K0.trans (Kept.ofBelow b1)
  have hR1 := (Kept.ofBelow (S := []) b1).at hR0 (by simp)
  clear b1 K0 hR0 he0
  go_wp2_with fail
  have K2 : Kept [R] w (w1.alloc (.cells #[.int .u64 (nw % 1000000000), .int .i64 (nw / 1000000000), .pointer none] 26)) := K1.trans (Kept.alloc _ _ _)
  have hR2 := (Kept.alloc [] w1 (.cells #[.int .u64 (nw % 1000000000), .int .i64 (nw / 1000000000), .pointer none] 26)).at hR1 (by simp)
  have hnb := alloc_at w1 (.cells #[.int .u64 (nw % 1000000000), .int .i64 (nw / 1000000000), .pointer none] 26)
  have hs1 := K1.size
  generalize (w1.alloc (.cells #[.int .u64 (nw % 1000000000), .int .i64 (nw / 1000000000), .pointer none] 26)) = w2 at *
  generalize hnbb : w1.heap.size = nb at *
  clear hnbb K1 hR1 c1 f1 c2 c3
  replace hR2 : Hid _ := hR2
  replace hnb : Hid _ := hnb
  go_loopw [] (fun wr => ∃ j vc, FInv B R e c q n j nw ts w2 vc wr) (fun wr => lenAt wr R)
  case atStart => exact ⟨0, .slice none 0 0, Nat.zero_le _, (fun i hi => by omega), Kept.refl _ _, hR2.out, K2.at hc.out (by simp; exact fun h => nR.2.1 h.symm), World.ownsRow_nil _ _ _ _, (fun g hg => by simp [Value.ownBlock] at hg)⟩
  case round =>
    obtain ⟨j, vc, hF⟩ := hrel
    have hF' := hF
    obtain ⟨hj, hts, K3, hR3, hc3, hown, hrow⟩ := hF'
    have s1 : wr.cell? ⟨bx, 0, none⟩ = some (.pointer (some ⟨R, 0, none⟩)) := cell_at (K3.at (K2.at hbx.out (by simp; exact fun h => nR.2.2.1 h.symm)) (by simp; exact ⟨fun h => nR.2.2.1 h.symm, fun h => ne.2.2.1 h.symm⟩)) 0 rfl
    have s2 : wr.cell? ⟨R, 23, none⟩ = some (wtv q n j) := cell_at hR3 23 rfl
    replace hF : Hid _ := hF
    replace hR3 : Hid _ := hR3
    replace hc3 : Hid _ := hc3
    replace hown : Hid _ := hown
    replace hts : Hid _ := hts
    replace hrow : Hid _ := hrow
    by_cases hjn : j = n
    · subst hjn
      have e1 : wtv q j j = .slice (some ⟨q, j - 1, none⟩) 0 0 := by simp [wtv]
      rw [e1] at s2
      go_wp2_with fail
      refine wp_region_noPanic (wp_region_last (fun w' => w'.cell? ⟨bx, 0, none⟩ = some (.pointer (some ⟨R, 0, none⟩)) ∧ w'.cell? ⟨R, 23, none⟩ = some (.slice (some ⟨q, j - 1, none⟩) 0 0)) [0, 3] (by kernel_rfl) ?_)
      have hS := And.intro s1 s2
      clear s1 s2
      refine wpAnyL_take (i := 0) (v := ?_) rfl (by kernel_rfl) (by kernel_rfl) (by kernel_rfl) (by kernel_rfl) (fun _ _ _ h => h) (by rfl) ?_ hS ?_
      rotate_left
      · intro w' hS'; go_simp; try with_reducible rfl
      try simp only [Act.put, List.setIfInBounds_toArray, List.set_cons_zero, List.set_cons_succ]
      refine wpAnyL_free (i := 1) (v := ?_) rfl (by kernel_rfl) (by kernel_rfl) (by kernel_rfl) (fun _ _ _ h => h) (by rfl) ?_ ?_
      rotate_left
      · intro w'; go_simp; try with_reducible rfl
      try simp only [Act.put, List.setIfInBounds_toArray, List.set_cons_zero, List.set_cons_succ]
      refine wpAnyL_free (i := 2) (v := ?_) rfl (by kernel_rfl) (by kernel_rfl) (by kernel_rfl) (fun _ _ _ h => h) (by rfl) ?_ ?_
      rotate_left
      · intro w'; go_simp; try with_reducible rfl
      try simp only [Act.put, List.setIfInBounds_toArray, List.set_cons_zero, List.set_cons_succ]
      refine wpAnyL_take (i := 3) (v := ?_) rfl (by kernel_rfl) (by kernel_rfl) (by kernel_rfl) (by kernel_rfl) (fun _ _ _ h => h) (by rfl) ?_ hS ?_
      rotate_left
      · intro w' hS'; go_simp; try with_reducible rfl
      try simp only [Act.put, List.setIfInBounds_toArray, List.set_cons_zero, List.set_cons_succ]
      refine wpAnyL_free (i := 4) (v := ?_) rfl (by kernel_rfl) (by kernel_rfl) (by kernel_rfl) (fun _ _ _ h => h) (by rfl) ?_ ?_
      rotate_left
      · intro w'; go_simp; try with_reducible rfl
      try simp only [Act.put, List.setIfInBounds_toArray, List.set_cons_zero, List.set_cons_succ]
      refine wpAnyL_free (i := 5) (v := ?_) rfl (by kernel_rfl) (by kernel_rfl) (by kernel_rfl) (fun _ _ _ h => h) (by rfl) ?_ ?_
      rotate_left
      · intro w'; go_simp; try with_reducible rfl
      try simp only [Act.put, List.setIfInBounds_toArray, List.set_cons_zero, List.set_cons_succ]
      refine wpAnyL_free (i := 6) (v := ?_) rfl (by kernel_rfl) (by kernel_rfl) (by kernel_rfl) (fun _ _ _ h => h) (by rfl) ?_ ?_
      rotate_left
      · intro w'; go_simp; try with_reducible rfl
      try simp only [Act.put, List.setIfInBounds_toArray, List.set_cons_zero, List.set_cons_succ]
      refine wpAnyL_skip (i := 7) rfl (by kernel_rfl) (by kernel_rfl) (by kernel_rfl) (fun _ _ _ h => h) (by rfl) ?_
      try simp only [Act.put, List.setIfInBounds_toArray, List.set_cons_zero, List.set_cons_succ]
      refine wpAnyL_skip (i := 8) rfl (by kernel_rfl) (by kernel_rfl) (by kernel_rfl) (fun _ _ _ h => h) (by rfl) ?_
      try simp only [Act.put, List.setIfInBounds_toArray, List.set_cons_zero, List.set_cons_succ]
      refine wpAnyL_skip (i := 9) rfl (by kernel_rfl) (by kernel_rfl) (by kernel_rfl) (fun _ _ _ h => h) (by rfl) ?_
      try simp only [Act.put, List.setIfInBounds_toArray, List.set_cons_zero, List.set_cons_succ]
      refine wpAnyL_skip (i := 10) rfl (by kernel_rfl) (by kernel_rfl) (by kernel_rfl) (fun _ _ _ h => h) (by rfl) ?_
      try simp only [Act.put, List.setIfInBounds_toArray, List.set_cons_zero, List.set_cons_succ]
      refine wpAnyL_skip (i := 11) rfl (by kernel_rfl) (by kernel_rfl) (by kernel_rfl) (fun _ _ _ h => h) (by rfl) ?_
      try simp only [Act.put, List.setIfInBounds_toArray, List.set_cons_zero, List.set_cons_succ]
      refine wpAnyL_skip (i := 12) rfl (by kernel_rfl) (by kernel_rfl) (by kernel_rfl) (fun _ _ _ h => h) (by rfl) ?_
      try simp only [Act.put, List.setIfInBounds_toArray, List.set_cons_zero, List.set_cons_succ]
      refine wpAnyL_skip (i := 13) rfl (by kernel_rfl) (by kernel_rfl) (by kernel_rfl) (fun _ _ _ h => h) (by rfl) ?_
      try simp only [Act.put, List.setIfInBounds_toArray, List.set_cons_zero, List.set_cons_succ]
      refine wpAnyL_skip (i := 14) rfl (by kernel_rfl) (by kernel_rfl) (by kernel_rfl) (fun _ _ _ h => h) (by rfl) ?_
      try simp only [Act.put, List.setIfInBounds_toArray, List.set_cons_zero, List.set_cons_succ]
      refine wpAnyL_skip (i := 15) rfl (by kernel_rfl) (by kernel_rfl) (by kernel_rfl) (fun _ _ _ h => h) (by rfl) ?_
      try simp only [Act.put, List.setIfInBounds_toArray, List.set_cons_zero, List.set_cons_succ]
      refine wpAnyL_skip (i := 16) rfl (by kernel_rfl) (by kernel_rfl) (by kernel_rfl) (fun _ _ _ h => h) (by rfl) ?_
      try simp only [Act.put, List.setIfInBounds_toArray, List.set_cons_zero, List.set_cons_succ]
      refine wpAnyL_skip (i := 17) rfl (by kernel_rfl) (by kernel_rfl) (by kernel_rfl) (fun _ _ _ h => h) (by rfl) ?_
      try simp only [Act.put, List.setIfInBounds_toArray, List.set_cons_zero, List.set_cons_succ]
      refine wpAnyL_skip (i := 18) rfl (by kernel_rfl) (by kernel_rfl) (by kernel_rfl) (fun _ _ _ h => h) (by rfl) ?_
      try simp only [Act.put, List.setIfInBounds_toArray, List.set_cons_zero, List.set_cons_succ]
      refine wpAnyL_free (i := 19) (v := ?_) rfl (by kernel_rfl) (by kernel_rfl) (by kernel_rfl) (fun _ _ _ h => h) (by rfl) ?_ ?_
      rotate_left
      · intro w'; go_simp; try with_reducible rfl
      try simp only [Act.put, List.setIfInBounds_toArray, List.set_cons_zero, List.set_cons_succ]
      refine wpAnyL_done (by kernel_rfl) ?_ _
      refine NoPanic.normal ?_
      go_wp2_with fail
      refine (watch_empty R e (some ⟨q, j - 1, none⟩) 0 _ (by have := hR3.out; rw [e1] at this; exact this)).mono ?_
      rintro _ w4 ⟨rfl, b4⟩
      have K4 : Kept [R, c] wr w4 := (Kept.drew _ _).trans (Kept.ofBelow b4)
      have K4' : Kept [] wr w4 := (Kept.drew _ _).trans (Kept.ofBelow b4)
      have fin : FirePost B R e c q j j nw ts vd vf ds fs w w4 := ⟨Nat.le_refl _, hts.out, vc, K4'.at hc3.out (by simp), K4'.owns hown.out (by simp), .inl ⟨rfl, K4'.at hR3.out (by simp), ((K2.mono (by simp)).trans K3).trans K4⟩⟩
      go_wp2_with fail
      go_end0
      exact ⟨rfl, j, fin⟩
    · obtain ⟨m, rfl⟩ : ∃ m, n = j + m + 1 := ⟨n - j - 1, by omega⟩
      have e1 : wtv q (j + m + 1) j = .slice (some ⟨q, j, none⟩) (m + 1) (m + 1) := by
        have a1 : ¬ j = j + m + 1 := by omega
        have a2 : j + m + 1 - j = m + 1 := by omega
        simp [wtv, a1, a2]
      rw [e1] at s2
      have hq0 : IsReq q c k L M j (ts.getD j 0) wr := (IsReq.kept (hreq.out j (by omega)) K2 (by simp; exact fun h => nR.2.2.2 h.symm) (by simpa using hRL)).kept K3 (by simp; exact ⟨fun h => nR.2.2.2 h.symm, fun h => ne.2.2.2 h.symm⟩) (by simpa using ⟨hRL, hcL⟩)
      obtain ⟨rb, b1, b2, b3, q1, q2, q3, q4, q5, r1, r2, r3, r4⟩ := hq0
      have s4 : wr.cell? ⟨rb, 8, none⟩ = some (.int .u64 (ts.getD j 0 % 1000000000)) := cell_at q2 8 rfl
      have s5 : wr.cell? ⟨rb, 9, none⟩ = some (.int .i64 (ts.getD j 0 / 1000000000)) := cell_at q2 9 rfl
      have s6 : wr.cell? ⟨rb, 10, none⟩ = some (.pointer none) := cell_at q2 10 rfl
      have s7 : wr.cell? ⟨rb, 7, none⟩ = some (.func (.func 11) #[] #[.pointer (some ⟨b1, 0, none⟩), .pointer (some ⟨b2, 0, none⟩), .pointer (some ⟨b3, 0, none⟩)]) := cell_at q2 7 rfl
      have hnb3 := K3.at hnb.out (by simp; omega)
      have t0 : wr.cell? ⟨nb, 0, none⟩ = some (.int .u64 (nw % 1000000000)) := cell_at hnb3 0 rfl
      have t1 : wr.cell? ⟨nb, 1, none⟩ = some (.int .i64 (nw / 1000000000)) := cell_at hnb3 1 rfl
      have t2 : wr.cell? ⟨nb, 2, none⟩ = some (.pointer none) := cell_at hnb3 2 rfl
      clear hnb3
      generalize htj : ts.getD j 0 = t at *
      replace htj : Hid _ := htj
      replace q2 : Hid _ := q2
      replace q3 : Hid _ := q3
      replace q4 : Hid _ := q4
      replace q5 : Hid _ := q5
      go_wp2_with fail
      refine wp_region_noPanic (wp_region_last (fun w' => w'.cell? ⟨bx, 0, none⟩ = some (.pointer (some ⟨R, 0, none⟩)) ∧ w'.cell? ⟨R, 23, none⟩ = some (.slice (some ⟨q, j, none⟩) (m + 1) (m + 1)) ∧ w'.cell? ⟨q, j, none⟩ = some (.pointer (some ⟨rb, 0, none⟩)) ∧ w'.cell? ⟨rb, 8, none⟩ = some (.int .u64 (t % 1000000000)) ∧ w'.cell? ⟨rb, 9, none⟩ = some (.int .i64 (t / 1000000000)) ∧ w'.cell? ⟨rb, 10, none⟩ = some (.pointer none) ∧
        w'.cell? ⟨nb, 0, none⟩ = some (.int .u64 (nw % 1000000000)) ∧ w'.cell? ⟨nb, 1, none⟩ = some (.int .i64 (nw / 1000000000)) ∧ w'.cell? ⟨nb, 2, none⟩ = some (.pointer none)) [0, 3, 7, 8, 11, 13, 16] (by kernel_rfl) ?_)
      have hS := And.intro s1 (And.intro s2 (And.intro q1 (And.intro s4 (And.intro s5 (And.intro s6 (And.intro t0 (And.intro t1 t2)))))))
      refine wpAnyL_take (i := 0) (v := ?_) rfl (by kernel_rfl) (by kernel_rfl) (by kernel_rfl) (by kernel_rfl) (fun _ _ _ h => h) (by rfl) ?_ hS ?_
      rotate_left
      · intro w' hS'; go_simp; try with_reducible rfl
      try simp only [Act.put, List.setIfInBounds_toArray, List.set_cons_zero, List.set_cons_succ]
      refine wpAnyL_free (i := 1) (v := ?_) rfl (by kernel_rfl) (by kernel_rfl) (by kernel_rfl) (fun _ _ _ h => h) (by rfl) ?_ ?_
      rotate_left
      · intro w'; go_simp; try with_reducible rfl
      try simp only [Act.put, List.setIfInBounds_toArray, List.set_cons_zero, List.set_cons_succ]
      refine wpAnyL_free (i := 2) (v := ?_) rfl (by kernel_rfl) (by kernel_rfl) (by kernel_rfl) (fun _ _ _ h => h) (by rfl) ?_ ?_
      rotate_left
      · intro w'; go_simp; try with_reducible rfl
      try simp only [Act.put, List.setIfInBounds_toArray, List.set_cons_zero, List.set_cons_succ]
      refine wpAnyL_take (i := 3) (v := ?_) rfl (by kernel_rfl) (by kernel_rfl) (by kernel_rfl) (by kernel_rfl) (fun _ _ _ h => h) (by rfl) ?_ hS ?_
      rotate_left
      · intro w' hS'; go_simp; try with_reducible rfl
      try simp only [Act.put, List.setIfInBounds_toArray, List.set_cons_zero, List.set_cons_succ]
      refine wpAnyL_free (i := 4) (v := ?_) rfl (by kernel_rfl) (by kernel_rfl) (by kernel_rfl) (fun _ _ _ h => h) (by rfl) ?_ ?_
      rotate_left
      · intro w'; go_simp; try with_reducible rfl
      try simp only [Act.put, List.setIfInBounds_toArray, List.set_cons_zero, List.set_cons_succ]
      refine wpAnyL_free (i := 5) (v := ?_) rfl (by kernel_rfl) (by kernel_rfl) (by kernel_rfl) (fun _ _ _ h => h) (by rfl) ?_ ?_
      rotate_left
      · intro w'; go_simp; try with_reducible rfl
      try simp only [Act.put, List.setIfInBounds_toArray, List.set_cons_zero, List.set_cons_succ]
      refine wpAnyL_free (i := 6) (v := ?_) rfl (by kernel_rfl) (by kernel_rfl) (by kernel_rfl) (fun _ _ _ h => h) (by rfl) ?_ ?_
      rotate_left
      · intro w'; go_simp; try with_reducible rfl
      try simp only [Act.put, List.setIfInBounds_toArray, List.set_cons_zero, List.set_cons_succ]
      refine wpAnyL_take (i := 7) (v := ?_) rfl (by kernel_rfl) (by kernel_rfl) (by kernel_rfl) (by kernel_rfl) (fun _ _ _ h => h) (by rfl) ?_ hS ?_
      rotate_left
      · intro w' hS'; go_simp; try with_reducible rfl
      try simp only [Act.put, List.setIfInBounds_toArray, List.set_cons_zero, List.set_cons_succ]
      refine wpAnyL_take (i := 8) (v := ?_) rfl (by kernel_rfl) (by kernel_rfl) (by kernel_rfl) (by kernel_rfl) (fun _ _ _ h => h) (by rfl) ?_ hS ?_
      rotate_left
      · intro w' hS'; go_simp; try with_reducible rfl
      try simp only [Act.put, List.setIfInBounds_toArray, List.set_cons_zero, List.set_cons_succ]
      refine wpAnyL_free (i := 9) (v := ?_) rfl (by kernel_rfl) (by kernel_rfl) (by kernel_rfl) (fun _ _ _ h => h) (by rfl) ?_ ?_
      rotate_left
      · intro w'; go_simp; try with_reducible rfl
      try simp only [Act.put, List.setIfInBounds_toArray, List.set_cons_zero, List.set_cons_succ]
      refine wpAnyL_free (i := 10) (v := ?_) rfl (by kernel_rfl) (by kernel_rfl) (by kernel_rfl) (fun _ _ _ h => h) (by rfl) ?_ ?_
      rotate_left
      · intro w'; go_simp; try with_reducible rfl
      try simp only [Act.put, List.setIfInBounds_toArray, List.set_cons_zero, List.set_cons_succ]
      refine wpAnyL_take (i := 11) (v := ?_) rfl (by kernel_rfl) (by kernel_rfl) (by kernel_rfl) (by kernel_rfl) (fun _ _ _ h => h) (by rfl) ?_ hS ?_
      rotate_left
      · intro w' hS'; go_simp; try with_reducible rfl
      try simp only [Act.put, List.setIfInBounds_toArray, List.set_cons_zero, List.set_cons_succ]
      refine wpAnyL_free (i := 12) (v := ?_) rfl (by kernel_rfl) (by kernel_rfl) (by kernel_rfl) (fun _ _ _ h => h) (by rfl) ?_ ?_
      rotate_left
      · intro w'; go_simp; try with_reducible rfl
      try simp only [Act.put, List.setIfInBounds_toArray, List.set_cons_zero, List.set_cons_succ]
      refine wpAnyL_take (i := 13) (v := ?_) rfl (by kernel_rfl) (by kernel_rfl) (by kernel_rfl) (by kernel_rfl) (fun _ _ _ h => h) (by rfl) ?_ hS ?_
      rotate_left
      · intro w' hS'; go_simp; try with_reducible rfl
      try simp only [Act.put, List.setIfInBounds_toArray, List.set_cons_zero, List.set_cons_succ]
      refine wpAnyL_free (i := 14) (v := ?_) rfl (by kernel_rfl) (by kernel_rfl) (by kernel_rfl) (fun _ _ _ h => h) (by rfl) ?_ ?_
      rotate_left
      · intro w'; go_simp; try with_reducible rfl
      try simp only [Act.put, List.setIfInBounds_toArray, List.set_cons_zero, List.set_cons_succ]
      refine wpAnyL_free (i := 15) (v := ?_) rfl (by kernel_rfl) (by kernel_rfl) (by kernel_rfl) (fun _ _ _ h => h) (by rfl) ?_ ?_
      rotate_left
      · intro w'; go_simp; try with_reducible rfl
      try simp only [Act.put, List.setIfInBounds_toArray, List.set_cons_zero, List.set_cons_succ]
      refine wpAnyL_take (i := 16) (v := ?_) rfl (by kernel_rfl) (by kernel_rfl) (by kernel_rfl) (by kernel_rfl) (fun _ _ _ h => h) (by rfl) ?_ hS ?_
      rotate_left
      · intro w' hS'; go_simp; try with_reducible rfl
      try simp only [Act.put, List.setIfInBounds_toArray, List.set_cons_zero, List.set_cons_succ]
      refine wpAnyL_one (i := 17) (by kernel_rfl) rfl (by rfl) (fun K hK => ?_)
      go_simp
      refine (before_any nw t _).mono ?_
      rintro _ w5 ⟨rfl, b5⟩
      have K5 : Kept [] wr w5 := (Kept.drew _ _).trans (Kept.ofBelow b5)
      refine hK.out _ _ (fun _ hS => ?_) ?_
      · exact ⟨K5.cell hS.1 (by simp), K5.cell hS.2.1 (by simp), K5.cell hS.2.2.1 (by simp), K5.cell hS.2.2.2.1 (by simp), K5.cell hS.2.2.2.2.1 (by simp), K5.cell hS.2.2.2.2.2.1 (by simp), K5.cell hS.2.2.2.2.2.2.1 (by simp), K5.cell hS.2.2.2.2.2.2.2.1 (by simp), K5.cell hS.2.2.2.2.2.2.2.2 (by simp)⟩
      clear hK K b5
      have F5 := Hid.out hF
      by_cases hlt : nw < t
      · rw [decide_eq_true hlt]
        try simp only [Act.put, List.setIfInBounds_toArray, List.set_cons_zero, List.set_cons_succ]
        refine wpAnyL_free (i := 18) (v := ?_) rfl (by kernel_rfl) (by kernel_rfl) (by kernel_rfl) (fun _ _ _ h => h) (by rfl) ?_ ?_
        rotate_left
        · intro w'; go_simp; try with_reducible rfl
        try simp only [Act.put, List.setIfInBounds_toArray, List.set_cons_zero, List.set_cons_succ]
        refine wpAnyL_free (i := 19) (v := ?_) rfl (by kernel_rfl) (by kernel_rfl) (by kernel_rfl) (fun _ _ _ h => h) (by rfl) ?_ ?_
        rotate_left
        · intro w'; go_simp; try with_reducible rfl
        try simp only [Act.put, List.setIfInBounds_toArray, List.set_cons_zero, List.set_cons_succ]
        refine wpAnyL_done (by kernel_rfl) ?_ _
        refine NoPanic.normal ?_
        have u1 := K5.cell s1 (by simp)
        clear hS s1 s2 s4 s5 s6 s7 t0 t1 t2 F5
        go_wp2_with fail
        have K25 : Kept [R, c] w2 w5 := K3.trans (K5.mono (by simp))
        have K05 : Kept [R, c] w w5 := (K2.mono (by simp)).trans K25
        have he5 := K05.at he.out (by simp; exact ⟨fun h => nR.1 h.symm, ne.1⟩)
        have nd : ∀ g, vd.ownBlock = some g → g ∉ [R, c] := fun g hg => by have := hrows.out g (by simp [hg]); simp; exact ⟨this.2.1, this.2.2.2.2⟩
        have nf : ∀ g, vf.ownBlock = some g → g ∉ [R, c] := fun g hg => by have := hrows.out g (by simp [hg]); simp; exact ⟨this.2.1, this.2.2.2.2⟩
        have hd5 := K05.owns hd.out nd
        have hf5 := K05.owns hf.out nf
        have hR5 := K5.at hR3.out (by simp)
        rw [e1] at hR5
        have q1' := K5.cell q1 (by simp)
        have rq := K5.at q2.out (by simp)
        have hs5 := K05.size
        have hnr : ∀ x, (L ≤ x ∧ x < M) → x ∉ R :: e :: (vd.ownBlock.toList ++ vf.ownBlock.toList) := fun x hx h => by
          rcases List.mem_cons.1 h with h | h
          · omega
          rcases List.mem_cons.1 h with h | h
          · omega
          · have := (hrows.out x h).1; omega
        refine (watch_set B R e q j m rb (m + 1) nw t vd vf ds fs w5 hR5 he5 hd5 hf5 (fun h => (hrows.out e (by simp [h])).2.2.2.1 rfl) (fun h => (hrows.out e (by simp [h])).2.2.2.1 rfl) h3.out (by omega) l1 l2 q1' (cell_at rq 8 rfl) (cell_at rq 9 rfl) (cell_at rq 10 rfl) ?_ ?_ (hnr rb r1) hn0 hn1 (htj.out ▸ hts0.out j) (htj.out ▸ hts1.out j) (by omega)).mono ?_
        · intro h
          rcases List.mem_cons.1 h with h | h
          · exact nR.1 h
          · exact (hrows.out R h).2.1 rfl
        · intro h
          rcases List.mem_cons.1 h with h | h
          · exact nR.2.2.2 h.symm
          rcases List.mem_cons.1 h with h | h
          · exact ne.2.1 h.symm
          · exact (hrows.out q h).2.2.1 rfl
        rintro _ w6 ⟨rfl, hP⟩
        obtain ⟨bx', p1, p2, p3, g, gc, g', gc', p4, p5, p6, p7, p8, p9, p10, p11, K6⟩ := hP
        have ncS : c ∉ R :: e :: (vd.ownBlock.toList ++ vf.ownBlock.toList) := by
          intro h
          rcases List.mem_cons.1 h with h | h
          · exact nR.2.1 h.symm
          rcases List.mem_cons.1 h with h | h
          · exact ne.1 h.symm
          · exact (hrows.out c h).2.2.2.2 rfl
        have fin : FirePost B R e c q (j + m + 1) j nw ts vd vf ds fs w w6 := by
          refine ⟨by omega, hts.out, vc, K6.at (K5.at hc3.out (by simp)) ncS, K6.owns (K5.owns hown.out (by simp)) ?_, .inr ⟨by omega, by rw [htj.out]; exact hlt, ?_, g, gc, g', gc', p4, by rw [htj.out]; exact p5, ?_⟩⟩
          · intro g hg h
            have h1 := hrow.out g hg
            have hz := K2.size
            rcases List.mem_cons.1 h with h | h
            · omega
            rcases List.mem_cons.1 h with h | h
            · omega
            rcases List.mem_append.1 h with h | h
            · have := ownBlock_lt hd.out (by simpa using h); omega
            · have := ownBlock_lt hf.out (by simpa using h); omega
          · rw [e1]; exact p3
          · exact (K05.mono (by simp +contextual)).trans (K6.mono (by simp +contextual))
        go_wp2_with fail
        go_end0
        exact ⟨rfl, j, fin⟩
      · rw [decide_eq_false hlt]
        try simp only [Act.put, List.setIfInBounds_toArray, List.set_cons_zero, List.set_cons_succ]
        refine wpAnyL_free (i := 18) (v := ?_) rfl (by kernel_rfl) (by kernel_rfl) (by kernel_rfl) (fun _ _ _ h => h) (by rfl) ?_ ?_
        rotate_left
        · intro w'; go_simp; try with_reducible rfl
        try simp only [Act.put, List.setIfInBounds_toArray, List.set_cons_zero, List.set_cons_succ]
        refine wpAnyL_free (i := 19) (v := ?_) rfl (by kernel_rfl) (by kernel_rfl) (by kernel_rfl) (fun _ _ _ h => h) (by rfl) ?_ ?_
        rotate_left
        · intro w'; go_simp; try with_reducible rfl
        try simp only [Act.put, List.setIfInBounds_toArray, List.set_cons_zero, List.set_cons_succ]
        refine wpAnyL_done (by kernel_rfl) ?_ _
        refine NoPanic.normal ?_
        clear hS F5
        have K25 : Kept [R, c] w2 w5 := K3.trans (K5.mono (by simp))
        have K05 : Kept [R, c] w w5 := (K2.mono (by simp)).trans K25
        have u1 := K5.cell s1 (by simp)
        have u2 := K5.cell s2 (by simp)
        have u3 := K5.cell q1 (by simp)
        have u4 := K5.cell s7 (by simp)
        have hc5 := K5.at hc3.out (by simp)
        have hR5 := K5.at hR3.out (by simp)
        have ho5 := K5.owns hown.out (by simp)
        have v3 := K5.at q3.out (by simp)
        have v4 := K5.at q4.out (by simp)
        have v5 := K5.at q5.out (by simp)
        clear s1 s2 q1 s4 s5 s6 s7 t0 t1 t2 K5 hc3 hown q3 q4 q5
        replace hc5 : Hid _ := hc5
        replace hR5 : Hid _ := hR5
        replace ho5 : Hid _ := ho5
        replace v3 : Hid _ := v3
        replace v4 : Hid _ := v4
        replace v5 : Hid _ := v5
        go_wp2_with fail
        refine wp_region_noPanic (wp_region_last (fun w' => w'.cell? ⟨bx, 0, none⟩ = some (.pointer (some ⟨R, 0, none⟩)) ∧ w'.cell? ⟨R, 23, none⟩ = some (.slice (some ⟨q, j, none⟩) (m + 1) (m + 1)) ∧ w'.cell? ⟨q, j, none⟩ = some (.pointer (some ⟨rb, 0, none⟩)) ∧ w'.cell? ⟨rb, 7, none⟩ = some (.func (.func 11) #[] #[.pointer (some ⟨b1, 0, none⟩), .pointer (some ⟨b2, 0, none⟩), .pointer (some ⟨b3, 0, none⟩)])) [0, 3, 5, 8] (by kernel_rfl) ?_)
        have hS := And.intro u1 (And.intro u2 (And.intro u3 u4))
        clear u1 u2 u3 u4
        refine wpAnyL_take (i := 0) (v := ?_) rfl (by kernel_rfl) (by kernel_rfl) (by kernel_rfl) (by kernel_rfl) (fun _ _ _ h => h) (by rfl) ?_ hS ?_
        rotate_left
        · intro w' hS'; go_simp; try with_reducible rfl
        try simp only [Act.put, List.setIfInBounds_toArray, List.set_cons_zero, List.set_cons_succ]
        refine wpAnyL_free (i := 1) (v := ?_) rfl (by kernel_rfl) (by kernel_rfl) (by kernel_rfl) (fun _ _ _ h => h) (by rfl) ?_ ?_
        rotate_left
        · intro w'; go_simp; try with_reducible rfl
        try simp only [Act.put, List.setIfInBounds_toArray, List.set_cons_zero, List.set_cons_succ]
        refine wpAnyL_free (i := 2) (v := ?_) rfl (by kernel_rfl) (by kernel_rfl) (by kernel_rfl) (fun _ _ _ h => h) (by rfl) ?_ ?_
        rotate_left
        · intro w'; go_simp; try with_reducible rfl
        try simp only [Act.put, List.setIfInBounds_toArray, List.set_cons_zero, List.set_cons_succ]
        refine wpAnyL_take (i := 3) (v := ?_) rfl (by kernel_rfl) (by kernel_rfl) (by kernel_rfl) (by kernel_rfl) (fun _ _ _ h => h) (by rfl) ?_ hS ?_
        rotate_left
        · intro w' hS'; go_simp; try with_reducible rfl
        try simp only [Act.put, List.setIfInBounds_toArray, List.set_cons_zero, List.set_cons_succ]
        refine wpAnyL_free (i := 4) (v := ?_) rfl (by kernel_rfl) (by kernel_rfl) (by kernel_rfl) (fun _ _ _ h => h) (by rfl) ?_ ?_
        rotate_left
        · intro w'; go_simp; try with_reducible rfl
        try simp only [Act.put, List.setIfInBounds_toArray, List.set_cons_zero, List.set_cons_succ]
        refine wpAnyL_take (i := 5) (v := ?_) rfl (by kernel_rfl) (by kernel_rfl) (by kernel_rfl) (by kernel_rfl) (fun _ _ _ h => h) (by rfl) ?_ hS ?_
        rotate_left
        · intro w' hS'; go_simp; try with_reducible rfl
        try simp only [Act.put, List.setIfInBounds_toArray, List.set_cons_zero, List.set_cons_succ]
        refine wpAnyL_free (i := 6) (v := ?_) rfl (by kernel_rfl) (by kernel_rfl) (by kernel_rfl) (fun _ _ _ h => h) (by rfl) ?_ ?_
        rotate_left
        · intro w'; go_simp; try with_reducible rfl
        try simp only [Act.put, List.setIfInBounds_toArray, List.set_cons_zero, List.set_cons_succ]
        refine wpAnyL_free (i := 7) (v := ?_) rfl (by kernel_rfl) (by kernel_rfl) (by kernel_rfl) (fun _ _ _ h => h) (by rfl) ?_ ?_
        rotate_left
        · intro w'; go_simp; try with_reducible rfl
        try simp only [Act.put, List.setIfInBounds_toArray, List.set_cons_zero, List.set_cons_succ]
        refine wpAnyL_take (i := 8) (v := ?_) rfl (by kernel_rfl) (by kernel_rfl) (by kernel_rfl) (by kernel_rfl) (fun _ _ _ h => h) (by rfl) ?_ hS ?_
        rotate_left
        · intro w' hS'; go_simp; try with_reducible rfl
        try simp only [Act.put, List.setIfInBounds_toArray, List.set_cons_zero, List.set_cons_succ]
        refine wpAnyL_free (i := 9) (v := ?_) rfl (by kernel_rfl) (by kernel_rfl) (by kernel_rfl) (fun _ _ _ h => h) (by rfl) ?_ ?_
        rotate_left
        · intro w'; go_simp; try with_reducible rfl
        try simp only [Act.put, List.setIfInBounds_toArray, List.set_cons_zero, List.set_cons_succ]
        refine wpAnyL_one (i := 10) (by kernel_rfl) rfl (by rfl) (fun K hK => ?_)
        go_simp
        refine (unavailable_kept _ _).mono ?_
        rintro _ w6 ⟨rfl, hre, K6⟩
        refine hK.out _ _ (fun _ hS => ?_) ?_
        · exact ⟨K6.cell hS.1 (by simp), K6.cell hS.2.1 (by simp), K6.cell hS.2.2.1 (by simp), K6.cell hS.2.2.2 (by simp)⟩
        clear hK K
        have K56 : Kept [] w5 w6 := (Kept.drew _ _).trans K6
        replace hre : Hid _ := hre
        have z5 : w5.heap.size = w5.drew.heap.size := rfl
        have z6 := K56.size
        generalize w5.drew.heap.size = re at *
        try simp only [Act.put, List.setIfInBounds_toArray, List.set_cons_zero, List.set_cons_succ]
        refine wpAnyL_free (i := 11) (v := ?_) rfl (by kernel_rfl) (by kernel_rfl) (by kernel_rfl) (fun _ _ _ h => h) (by rfl) ?_ ?_
        rotate_left
        · intro w'; go_simp; try with_reducible rfl
        try simp only [Act.put, List.setIfInBounds_toArray, List.set_cons_zero, List.set_cons_succ]
        refine wpAnyL_one (i := 12) (by kernel_rfl) rfl (by rfl) (fun K hK => ?_)
        go_simp
        have hz2 := K2.size
        have hz5 := K05.size
        have hz25 := K25.size
        have hown6 := K56.owns ho5.out (by simp)
        have hlu : (upto j).length = j := by simp [upto]
        have hvr : ∀ g, vc.ownBlock = some g → w2.heap.size ≤ g ∧ g < w5.heap.size := fun g hg => ⟨hrow.out g hg, ownBlock_lt ho5.out hg⟩
        refine (doneC_any B c k re b1 b2 b3 j _ vc (upto j) w6 (K56.at hc5.out (by simp)) (by rw [hlu]; exact hown6) (fun h => by have := hvr c h; omega) (K56.at v3.out (by simp)) (K56.at v4.out (by simp)) (K56.at v5.out (by simp)) hre.out (by omega) (fun h => by have := hvr _ h; omega) (fun h => by have := hvr _ h; omega) (fun h => by have := hvr _ h; omega) (by omega) (by rw [hlu]; omega)).mono ?_
        rintro _ w7 ⟨rfl, hD⟩
        obtain ⟨g, gk, d1, d2, d3, d4, K7⟩ := hD
        rw [hlu] at d1 d2
        have nrow : ∀ x, x < w2.heap.size → x ∉ vc.ownBlock.toList := fun x hx h => by have := hvr x (by simpa using h); omega
        have n7 : ∀ x, x < w2.heap.size → x ≠ c → x ∉ c :: vc.ownBlock.toList := fun x hx hxc h => by
          rcases List.mem_cons.1 h with h | h
          · exact hxc h
          · exact nrow x hx h
        have nbx : bx ∉ c :: vc.ownBlock.toList := n7 bx (by omega) (fun h => ne.2.2.1 h.symm)
        have nRr : R ∉ c :: vc.ownBlock.toList := n7 R (by omega) nR.2.1
        have tq : q < w2.heap.size := by
          have := World.block_lt_of_cell? w _ (hreq.out j (by omega)).choose_spec.choose_spec.choose_spec.choose_spec.1
          simp at this; omega
        refine hK.out _ _ (fun _ hS => ?_) ?_
        · exact ⟨K7.cell hS.1 nbx, K7.cell hS.2.1 nRr, K7.cell hS.2.2.1 (n7 q tq (fun h => ne.2.2.2 h.symm)), K7.cell hS.2.2.2 (n7 rb (by omega) (by omega))⟩
        clear hK K
        refine wpAnyL_done (by kernel_rfl) ?_ _
        refine NoPanic.normal ?_
        have K57 : Kept (c :: vc.ownBlock.toList) w5 w7 := (K56.mono (by simp)).trans K7
        have hR7 := K57.at hR5.out nRr
        have x1 := K57.cell hS.1 nbx
        have x2 := K57.cell hS.2.1 nRr
        have x3 : w7.frozen? ⟨R, 23, none⟩ = false := frozen_at hR7 23
        clear hS
        replace d1 : Hid _ := d1
        replace d2 : Hid _ := d2
        replace hR7 : Hid _ := hR7
        clear hlu z5
        go_wp2_with fail
        refine wp_region_noPanic (wp_region_last (fun w' => w'.cell? ⟨bx, 0, none⟩ = some (.pointer (some ⟨R, 0, none⟩)) ∧ w'.cell? ⟨R, 23, none⟩ = some (.slice (some ⟨q, j, none⟩) (m + 1) (m + 1))) [0, 1, 4] (by kernel_rfl) ?_)
        have hS := And.intro x1 x2
        clear x1 x2
        refine wpAnyL_take (i := 0) (v := ?_) rfl (by kernel_rfl) (by kernel_rfl) (by kernel_rfl) (by kernel_rfl) (fun _ _ _ h => h) (by rfl) ?_ hS ?_
        rotate_left
        · intro w' hS'; go_simp; try with_reducible rfl
        try simp only [Act.put, List.setIfInBounds_toArray, List.set_cons_zero, List.set_cons_succ]
        refine wpAnyL_take (i := 1) (v := ?_) rfl (by kernel_rfl) (by kernel_rfl) (by kernel_rfl) (by kernel_rfl) (fun _ _ _ h => h) (by rfl) ?_ hS ?_
        rotate_left
        · intro w' hS'; go_simp; try with_reducible rfl
        try simp only [Act.put, List.setIfInBounds_toArray, List.set_cons_zero, List.set_cons_succ]
        refine wpAnyL_free (i := 2) (v := ?_) rfl (by kernel_rfl) (by kernel_rfl) (by kernel_rfl) (fun _ _ _ h => h) (by rfl) ?_ ?_
        rotate_left
        · intro w'; go_simp; try with_reducible rfl
        try simp only [Act.put, List.setIfInBounds_toArray, List.set_cons_zero, List.set_cons_succ]
        refine wpAnyL_free (i := 3) (v := ?_) rfl (by kernel_rfl) (by kernel_rfl) (by kernel_rfl) (fun _ _ _ h => h) (by rfl) ?_ ?_
        rotate_left
        · intro w'; go_simp; try with_reducible rfl
        try simp only [Act.put, List.setIfInBounds_toArray, List.set_cons_zero, List.set_cons_succ]
        refine wpAnyL_take (i := 4) (v := ?_) rfl (by kernel_rfl) (by kernel_rfl) (by kernel_rfl) (by kernel_rfl) (fun _ _ _ h => h) (by rfl) ?_ hS ?_
        rotate_left
        · intro w' hS'; go_simp; try with_reducible rfl
        try simp only [Act.put, List.setIfInBounds_toArray, List.set_cons_zero, List.set_cons_succ]
        obtain ⟨ao, hao0⟩ : ∃ ao, (if m = 0 then some (⟨q, j, none⟩ : Addr) else some ⟨q, j + 1, none⟩) = ao := ⟨_, rfl⟩
        have hao : Hid _ := hao0
        clear hao0
        refine wpAnyL_free (i := 5) (v := .slice ao m m) rfl (by kernel_rfl) (by kernel_rfl) (by kernel_rfl) (fun _ _ _ h => h) (by rfl) ?_ ?_
        · intro w'
          go_simp
          rw [if_pos (by omega), hao.out]
        try simp only [Act.put, List.setIfInBounds_toArray, List.set_cons_zero, List.set_cons_succ]
        refine wpAnyL_free (i := 6) (v := ?_) rfl (by kernel_rfl) (by kernel_rfl) (by kernel_rfl) (fun _ _ _ h => h) (by rfl) ?_ ?_
        rotate_left
        · intro w'; go_simp; try with_reducible rfl
        try simp only [Act.put, List.setIfInBounds_toArray, List.set_cons_zero, List.set_cons_succ]
        refine wpAnyL_free (i := 7) (v := ?_) rfl (by kernel_rfl) (by kernel_rfl) (by kernel_rfl) (fun _ _ _ h => h) (by rfl) ?_ ?_
        rotate_left
        · intro w'; go_simp; try with_reducible rfl
        try simp only [Act.put, List.setIfInBounds_toArray, List.set_cons_zero, List.set_cons_succ]
        refine wpAnyL_end (i := 8) (by kernel_rfl) rfl (by rfl) (by kernel_rfl) (fun K hK => ?_)
        go_simp
        refine hK.out _ _ ?_
        clear hK K
        refine wpAnyL_done (by kernel_rfl) ?_ _
        refine NoPanic.normal ?_
        go_wp2_with fail
        have K8 : Kept [R] w7 (w7.setCell ⟨R, 23, none⟩ (.slice ao m m)).drew := (Kept.setCell _ _ _ (by simp)).trans (Kept.drew _ _)
        have hR8 : (w7.setCell ⟨R, 23, none⟩ (.slice ao m m)).drew.heap[R]? = some (.cells (RC e (wtv q (j + m + 1) (j + 1)) false) 68) := by
          rw [wtv_next, hao.out]; exact set_at hR7.out 23 _
        have fin : FInv B R e c q (j + m + 1) (j + 1) nw ts w2 (.slice (some ⟨g, 0, none⟩) (j + 1) gk) (w7.setCell ⟨R, 23, none⟩ (.slice ao m m)).drew := by
          refine ⟨by omega, ?_, ?_, hR8, K8.at d1.out (by simp; exact fun h => nR.2.1 h.symm), K8.owns ?_ ?_, ?_⟩
          · intro i hi
            by_cases h : i < j
            · exact hts.out i h
            · have : i = j := by omega
              subst this; rw [htj.out]; omega
          · exact (K25.trans' (K57.mono (S' := [R] ++ (c :: vc.ownBlock.toList)) (by simp +contextual)) (by intro x hx; simp at hx; rcases hx with h | h | h; exact .inl (by simp [h]); exact .inl (by simp [h]); exact .inr (hrow.out x h))).trans (K8.mono (by simp))
          · have : (upto (j + 1)) = upto j ++ [(j : Int)] := by simp [upto, List.range_succ]
            rw [this, List.map_append]; exact d2.out
          · intro x hx; simp [Value.ownBlock] at hx; subst hx; simp; intro h; subst h
            rcases d3 with h | h
            · have := hvr _ h; omega
            · omega
          · intro x hx; simp [Value.ownBlock] at hx; subst hx
            rcases d3 with h | h
            · exact (hvr _ h).1
            · omega
        have hl1 : lenAt (w7.setCell ⟨R, 23, none⟩ (.slice ao m m)).drew R = m := by
          have := cell_at hR8 23 (v := wtv q (j + m + 1) (j + 1)) rfl
          unfold lenAt; rw [this, wtv_next]
        have hl2 : lenAt wr R = m + 1 := by
          have := cell_at hR3.out 23 (v := wtv q (j + m + 1) j) rfl
          unfold lenAt; rw [this, e1]
        exact ⟨⟨j + 1, _, fin⟩, by rw [hl1, hl2]; omega⟩
end Go.Proofs.Ybulkcqmy
