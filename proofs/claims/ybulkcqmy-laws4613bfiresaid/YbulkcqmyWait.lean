import Derived.Test.YbulkcqmyEnv
namespace Go.Proofs.Ybulkcqmy
set_option linter.unusedVariables false
set_option linter.unusedSimpArgs false
open Go.RowKit

/-- A Replica's cells: its environment, the waiting requests, whether a timer is set. -/
def RC (e : Nat) (wt : Value) (b : Bool) : Array Value := #[.int .i64 0, .slice none 0 0, .int .i64 0, .iface 27 (.pointer (some ⟨e, 0, none⟩)), .pointer none, .pointer none, .nilIface, .int .i64 0, .int .u64 0, .int .i64 0, .int .u64 0, .int .u64 0, .int .u64 0, .int .i64 0, .string ⟨#[]⟩, .int .u64 0, .int .i64 0, .int .u64 0, .pointer none, .pointer none, .pointer none, .map none, .slice none 0 0, wt, .bool b, .nilIface]

set_option maxHeartbeats 400000 in
theorem watch_timed (R e : Nat) (wt : Value) (w : World) (hR : w.heap[R]? = some (.cells (RC e wt true) 68)) :
    Calls Yba.prog 6 #[.pointer (some ⟨R, 0, none⟩)] w fun r w' => r = .returned (.tuple #[]) ∧ Below w.heap.size w w' := by
  have hlt := lt_of_at hR
  have c1 : w.cell? ⟨R, 24, none⟩ = some (.bool true) := cell_at hR 24 rfl
  clear hR
  go_enter Yba.func6, Yba.ntmps6
  go_wp2
  refine bodyPost_ret (results_none rfl _ _ _) rfl ?_
  exact ⟨rfl, (Below.refl _ _).alloc (Nat.le_refl _) _⟩

set_option maxHeartbeats 400000 in
theorem watch_empty (R e : Nat) (a : Option Addr) (c : Nat) (w : World) (hR : w.heap[R]? = some (.cells (RC e (.slice a 0 c) false) 68)) :
    Calls Yba.prog 6 #[.pointer (some ⟨R, 0, none⟩)] w fun r w' => r = .returned (.tuple #[]) ∧ Below w.heap.size w w' := by
  have hlt := lt_of_at hR
  have c1 : w.cell? ⟨R, 24, none⟩ = some (.bool false) := cell_at hR 24 rfl
  have c2 : w.cell? ⟨R, 23, none⟩ = some (.slice a 0 c) := cell_at hR 23 rfl
  clear hR
  go_enter Yba.func6, Yba.ntmps6
  go_wp2
  refine bodyPost_ret (results_none rfl _ _ _) rfl ?_
  exact ⟨rfl, (Below.refl _ _).alloc (Nat.le_refl _) _⟩

/-- What 'watchWaiting' leaves where it sets a timer. -/
def WatchPost (B R e : Nat) (nw d : Int) (wt vd vf : Value) (ds : List Int) (fs : List Value) (w w' : World) : Prop := ∃ bx, w.heap.size ≤ bx ∧
  w'.heap[bx]? = some (.cells #[.pointer (some ⟨R, 0, none⟩)] 46) ∧ w'.heap[R]? = some (.cells (RC e wt true) 68) ∧ ∃ g c g' c',
      w'.heap[e]? = some (.cells #[.int .u64 (nw % 1000000000), .int .i64 (nw / 1000000000), .pointer none, .slice (some ⟨g, 0, none⟩) (ds.length + 1) c, .slice (some ⟨g', 0, none⟩) (fs.length + 1) c'] 33) ∧
      w'.ownsRow B 29 1 (.slice (some ⟨g, 0, none⟩) (ds.length + 1) c) (ds.length + 1) (ds.map (.int .i64) ++ [.int .i64 d]) ∧
      w'.ownsRow B 1 1 (.slice (some ⟨g', 0, none⟩) (fs.length + 1) c') (fs.length + 1) (fs ++ [.func (.func 13) #[] #[.pointer (some ⟨bx, 0, none⟩)]]) ∧
      (vd.ownBlock = some g ∨ w.heap.size ≤ g) ∧ (vf.ownBlock = some g' ∨ w.heap.size ≤ g') ∧ g ≠ g' ∧ g ≠ e ∧ g' ≠ e ∧
      Kept (R :: e :: (vd.ownBlock.toList ++ vf.ownBlock.toList)) w w'

set_option maxRecDepth 20000 in
set_option maxHeartbeats 2000000 in
theorem watch_set (B R e q j m rb c' : Nat) (nw t : Int) (vd vf : Value) (ds : List Int) (fs : List Value) (w : World) (hR : w.heap[R]? = some (.cells (RC e (.slice (some ⟨q, j, none⟩) (m + 1) c') false) 68))
    (he : w.heap[e]? = some (.cells #[.int .u64 (nw % 1000000000), .int .i64 (nw / 1000000000), .pointer none, vd, vf] 33))
    (hd : w.ownsRow B 29 1 vd ds.length (ds.map (.int .i64))) (hf : w.ownsRow B 1 1 vf fs.length fs) (h1 : vd.ownBlock ≠ some e) (h2 : vf.ownBlock ≠ some e) (h3 : ∀ g, vd.ownBlock = some g → vf.ownBlock ≠ some g)
    (hB : B ≤ w.heap.size) (l1 : ds.length ≤ 90) (l2 : fs.length ≤ 90)
    (hq : w.cell? ⟨q, j, none⟩ = some (.pointer (some ⟨rb, 0, none⟩))) (r8 : w.cell? ⟨rb, 8, none⟩ = some (.int .u64 (t % 1000000000))) (r9 : w.cell? ⟨rb, 9, none⟩ = some (.int .i64 (t / 1000000000))) (r10 : w.cell? ⟨rb, 10, none⟩ = some (.pointer none))
    (nR : R ∉ e :: (vd.ownBlock.toList ++ vf.ownBlock.toList)) (nq : q ∉ R :: e :: (vd.ownBlock.toList ++ vf.ownBlock.toList)) (nr : rb ∉ R :: e :: (vd.ownBlock.toList ++ vf.ownBlock.toList))
    (hn0 : -3000000000 ≤ nw) (hn1 : nw ≤ 3000000000) (ht0 : -3000000000 ≤ t) (ht1 : t ≤ 3000000000) (hm : m ≤ 5000) :
    Calls Yba.prog 6 #[.pointer (some ⟨R, 0, none⟩)] w fun r w' => r = .returned (.tuple #[]) ∧ WatchPost B R e nw (t - nw) (.slice (some ⟨q, j, none⟩) (m + 1) c') vd vf ds fs w w' := by
  have hlt := lt_of_at hR
  have c1 : w.cell? ⟨R, 24, none⟩ = some (.bool false) := cell_at hR 24 rfl
  have f1 : w.frozen? ⟨R, 24, none⟩ = false := frozen_at hR 24
  have c2 : w.cell? ⟨R, 23, none⟩ = some (.slice (some ⟨q, j, none⟩) (m + 1) c') := cell_at hR 23 rfl
  have hmf : ∀ (fn : Fn) (first cap : Array Value) (w : World), (Instr.makeFunc fn first cap).run Yba.prog w = .ok (.func fn first cap) w := fun _ _ _ _ => rfl
  replace hR : Hid _ := hR
  replace he : Hid _ := he
  replace hd : Hid _ := hd
  replace hf : Hid _ := hf
  have HQ := show Hid _ from And.intro hq (And.intro r8 (And.intro r9 r10))
  clear hq r8 r9 r10
  go_enter Yba.func6, Yba.ntmps6
  go_wp2
  have K0 : Kept [R] w ((w.setCell ⟨R, 24, none⟩ (.bool true)).alloc (.cells #[.pointer (some ⟨R, 0, none⟩)] 46)) := (Kept.setCell _ _ _ (by simp)).trans (Kept.alloc _ _ _)
  have hbx := alloc_at (w.setCell ⟨R, 24, none⟩ (.bool true)) (.cells #[.pointer (some ⟨R, 0, none⟩)] 46)
  have hRW := (Kept.alloc [] (w.setCell ⟨R, 24, none⟩ (.bool true)) (.cells #[.pointer (some ⟨R, 0, none⟩)] 46)).at (set_at hR.out 24 (.bool true)) (by simp)
  have hz : ((w.setCell ⟨R, 24, none⟩ (.bool true)).alloc (.cells #[.pointer (some ⟨R, 0, none⟩)] 46)).heap.size = w.heap.size + 1 := by simp
  have hsz : (w.setCell ⟨R, 24, none⟩ (.bool true)).heap.size = w.heap.size := by simp [World.setCell]
  rw [hsz] at hbx
  clear hsz
  generalize ((w.setCell ⟨R, 24, none⟩ (.bool true)).alloc (.cells #[.pointer (some ⟨R, 0, none⟩)] 46)) = W at *
  have s1 : W.cell? ⟨w.heap.size, 0, none⟩ = some (.pointer (some ⟨R, 0, none⟩)) := cell_at hbx 0 rfl
  have s2 : W.cell? ⟨R, 3, none⟩ = some (.iface 27 (.pointer (some ⟨e, 0, none⟩))) := cell_at hRW 3 rfl
  have s3 : W.cell? ⟨R, 23, none⟩ = some (.slice (some ⟨q, j, none⟩) (m + 1) c') := cell_at hRW 23 rfl
  have s4 := K0.cell HQ.out.1 (by simp at nq; simp; exact nq.1)
  have s5 := K0.cell HQ.out.2.1 (by simp at nr; simp; exact nr.1)
  have s6 := K0.cell HQ.out.2.2.1 (by simp at nr; simp; exact nr.1)
  have s7 := K0.cell HQ.out.2.2.2 (by simp at nr; simp; exact nr.1)
  clear c1 c2 f1
  have hm1 : ∀ w, (method 322 27 (.pointer (some ⟨e, 0, none⟩)) "Now").run Yba.prog w = .ok (40, .pointer (some ⟨e, 0, none⟩)) w := fun _ => by kernel_rfl
  have hm2 : ∀ w, (method 322 27 (.pointer (some ⟨e, 0, none⟩)) "After").run Yba.prog w = .ok (38, .pointer (some ⟨e, 0, none⟩)) w := fun _ => by kernel_rfl
  refine wp_region_noPanic (wp_region_last (fun w' => w'.cell? ⟨w.heap.size, 0, none⟩ = some (.pointer (some ⟨R, 0, none⟩)) ∧ w'.cell? ⟨R, 3, none⟩ = some (.iface 27 (.pointer (some ⟨e, 0, none⟩))) ∧ w'.cell? ⟨R, 23, none⟩ = some (.slice (some ⟨q, j, none⟩) (m + 1) c') ∧ w'.cell? ⟨q, j, none⟩ = some (.pointer (some ⟨rb, 0, none⟩)) ∧
      w'.cell? ⟨rb, 8, none⟩ = some (.int .u64 (t % 1000000000)) ∧ w'.cell? ⟨rb, 9, none⟩ = some (.int .i64 (t / 1000000000)) ∧ w'.cell? ⟨rb, 10, none⟩ = some (.pointer none)) [0, 3, 4, 7, 9, 12, 13, 16] (by kernel_rfl) ?_)
  have hS := And.intro s1 (And.intro s2 (And.intro s3 (And.intro s4 (And.intro s5 (And.intro s6 s7)))))
  clear s1 s2 s3 s4 s5 s6 s7
  refine wpAnyL_take (i := 0) (v := ?_) rfl (by kernel_rfl) (by kernel_rfl) (by kernel_rfl) (by kernel_rfl) (fun _ _ _ h => h) (by rfl) ?_ hS ?_
  rotate_left
  · intro w' hS'; go_simp; try with_reducible rfl
  try simp only [Act.put, List.setIfInBounds_toArray, List.set_cons_zero, List.set_cons_succ]
  refine wpAnyL_free (i := 1) (v := ?_) rfl (by kernel_rfl) (by kernel_rfl) (by kernel_rfl) (fun _ _ _ h => h) (by rfl) ?_ ?_
  rotate_left
  · intro w'; go_simp; try with_reducible rfl
  try simp only [Act.put, List.setIfInBounds_toArray, List.set_cons_zero, List.set_cons_succ]
  refine wpAnyL_free (i := 2) (v := ?_) rfl (by kernel_rfl) (by kernel_rfl) (by kernel_rfl) (fun _ _ _ h => h) (by rfl) ?_ ?_
  rotate_left
  · intro w'; go_simp; try with_reducible rfl
  try simp only [Act.put, List.setIfInBounds_toArray, List.set_cons_zero, List.set_cons_succ]
  refine wpAnyL_take (i := 3) (v := ?_) rfl (by kernel_rfl) (by kernel_rfl) (by kernel_rfl) (by kernel_rfl) (fun _ _ _ h => h) (by rfl) ?_ hS ?_
  rotate_left
  · intro w' hS'; go_simp; try with_reducible rfl
  try simp only [Act.put, List.setIfInBounds_toArray, List.set_cons_zero, List.set_cons_succ]
  refine wpAnyL_take (i := 4) (v := ?_) rfl (by kernel_rfl) (by kernel_rfl) (by kernel_rfl) (by kernel_rfl) (fun _ _ _ h => h) (by rfl) ?_ hS ?_
  rotate_left
  · intro w' hS'; go_simp; try with_reducible rfl
  try simp only [Act.put, List.setIfInBounds_toArray, List.set_cons_zero, List.set_cons_succ]
  refine wpAnyL_free (i := 5) (v := ?_) rfl (by kernel_rfl) (by kernel_rfl) (by kernel_rfl) (fun _ _ _ h => h) (by rfl) ?_ ?_
  rotate_left
  · intro w'; go_simp; try with_reducible rfl
  try simp only [Act.put, List.setIfInBounds_toArray, List.set_cons_zero, List.set_cons_succ]
  refine wpAnyL_free (i := 6) (v := ?_) rfl (by kernel_rfl) (by kernel_rfl) (by kernel_rfl) (fun _ _ _ h => h) (by rfl) ?_ ?_
  rotate_left
  · intro w'; go_simp; try with_reducible rfl
  try simp only [Act.put, List.setIfInBounds_toArray, List.set_cons_zero, List.set_cons_succ]
  refine wpAnyL_take (i := 7) (v := ?_) rfl (by kernel_rfl) (by kernel_rfl) (by kernel_rfl) (by kernel_rfl) (fun _ _ _ h => h) (by rfl) ?_ hS ?_
  rotate_left
  · intro w' hS'; go_simp; try with_reducible rfl
  try simp only [Act.put, List.setIfInBounds_toArray, List.set_cons_zero, List.set_cons_succ]
  refine wpAnyL_free (i := 8) (v := ?_) rfl (by kernel_rfl) (by kernel_rfl) (by kernel_rfl) (fun _ _ _ h => h) (by rfl) ?_ ?_
  rotate_left
  · intro w'; go_simp; try with_reducible rfl
  try simp only [Act.put, List.setIfInBounds_toArray, List.set_cons_zero, List.set_cons_succ]
  refine wpAnyL_take (i := 9) (v := ?_) rfl (by kernel_rfl) (by kernel_rfl) (by kernel_rfl) (by kernel_rfl) (fun _ _ _ h => h) (by rfl) ?_ hS ?_
  rotate_left
  · intro w' hS'; go_simp; try with_reducible rfl
  try simp only [Act.put, List.setIfInBounds_toArray, List.set_cons_zero, List.set_cons_succ]
  refine wpAnyL_free (i := 10) (v := ?_) rfl (by kernel_rfl) (by kernel_rfl) (by kernel_rfl) (fun _ _ _ h => h) (by rfl) ?_ ?_
  rotate_left
  · intro w'; go_simp; try with_reducible rfl
  try simp only [Act.put, List.setIfInBounds_toArray, List.set_cons_zero, List.set_cons_succ]
  refine wpAnyL_free (i := 11) (v := ?_) rfl (by kernel_rfl) (by kernel_rfl) (by kernel_rfl) (fun _ _ _ h => h) (by rfl) ?_ ?_
  rotate_left
  · intro w'; go_simp; try with_reducible rfl
  try simp only [Act.put, List.setIfInBounds_toArray, List.set_cons_zero, List.set_cons_succ]
  refine wpAnyL_take (i := 12) (v := ?_) rfl (by kernel_rfl) (by kernel_rfl) (by kernel_rfl) (by kernel_rfl) (fun _ _ _ h => h) (by rfl) ?_ hS ?_
  rotate_left
  · intro w' hS'; go_simp; try with_reducible rfl
  try simp only [Act.put, List.setIfInBounds_toArray, List.set_cons_zero, List.set_cons_succ]
  refine wpAnyL_take (i := 13) (v := ?_) rfl (by kernel_rfl) (by kernel_rfl) (by kernel_rfl) (by kernel_rfl) (fun _ _ _ h => h) (by rfl) ?_ hS ?_
  rotate_left
  · intro w' hS'; go_simp; try with_reducible rfl
  try simp only [Act.put, List.setIfInBounds_toArray, List.set_cons_zero, List.set_cons_succ]
  refine wpAnyL_free (i := 14) (v := ?_) rfl (by kernel_rfl) (by kernel_rfl) (by kernel_rfl) (fun _ _ _ h => h) (by rfl) ?_ ?_
  rotate_left
  · intro w'; go_simp; try with_reducible rfl
  try simp only [Act.put, List.setIfInBounds_toArray, List.set_cons_zero, List.set_cons_succ]
  refine wpAnyL_free (i := 15) (v := ?_) rfl (by kernel_rfl) (by kernel_rfl) (by kernel_rfl) (fun _ _ _ h => h) (by rfl) ?_ ?_
  rotate_left
  · intro w'; go_simp; try with_reducible rfl
  try simp only [Act.put, List.setIfInBounds_toArray, List.set_cons_zero, List.set_cons_succ]
  refine wpAnyL_take (i := 16) (v := ?_) rfl (by kernel_rfl) (by kernel_rfl) (by kernel_rfl) (by kernel_rfl) (fun _ _ _ h => h) (by rfl) ?_ hS ?_
  rotate_left
  · intro w' hS'; go_simp; try with_reducible rfl
  try simp only [Act.put, List.setIfInBounds_toArray, List.set_cons_zero, List.set_cons_succ]
  refine wpAnyL_free (i := 20) (v := ?_) rfl (by kernel_rfl) (by kernel_rfl) (by kernel_rfl) (fun _ _ _ h => h) (by rfl) ?_ ?_
  rotate_left
  · intro w'; go_simp; try with_reducible rfl
  try simp only [Act.put, List.setIfInBounds_toArray, List.set_cons_zero, List.set_cons_succ]
  refine wpAnyL_free (i := 21) (v := ?_) rfl (by kernel_rfl) (by kernel_rfl) (by kernel_rfl) (fun _ _ _ h => h) (by rfl) ?_ ?_
  rotate_left
  · intro w'; go_simp; try with_reducible rfl
  try simp only [Act.put, List.setIfInBounds_toArray, List.set_cons_zero, List.set_cons_succ]
  refine wpAnyL_free (i := 19) (v := ?_) rfl (by kernel_rfl) (by kernel_rfl) (by kernel_rfl) (fun _ _ _ h => h) (by rfl) ?_ ?_
  rotate_left
  · intro w'; go_simp; try with_reducible rfl
  try simp only [Act.put, List.setIfInBounds_toArray, List.set_cons_zero, List.set_cons_succ]
  refine wpAnyL_one (i := 17) (by kernel_rfl) rfl (by rfl) (fun K hK => ?_)
  go_simp
  have KW : Kept [R] w W.drew := K0.trans (Kept.drew _ _)
  have heW := KW.at he.out (by simp at nR; simp; exact fun h => nR.1 h.symm)
  refine (now_any e _ _ vd vf _ heW).mono ?_
  rintro _ w1 ⟨rfl, b1⟩
  have K1 : Kept [] W.drew w1 := Kept.ofBelow b1
  refine hK.out _ _ (fun _ hS => ?_) ?_
  · exact ⟨K1.cell hS.1 (by simp), K1.cell hS.2.1 (by simp), K1.cell hS.2.2.1 (by simp), K1.cell hS.2.2.2.1 (by simp), K1.cell hS.2.2.2.2.1 (by simp), K1.cell hS.2.2.2.2.2.1 (by simp), K1.cell hS.2.2.2.2.2.2 (by simp)⟩
  clear hK K
  try simp only [Act.put, List.setIfInBounds_toArray, List.set_cons_zero, List.set_cons_succ]
  refine wpAnyL_one (i := 18) (by kernel_rfl) rfl (by rfl) (fun K hK => ?_)
  go_simp
  refine (sub_any t nw ht0 ht1 hn0 hn1 _).mono ?_
  rintro _ w2 ⟨rfl, b2⟩
  have K2 : Kept [] w1 w2 := Kept.ofBelow b2
  refine hK.out _ _ (fun _ hS => ?_) ?_
  · exact ⟨K2.cell hS.1 (by simp), K2.cell hS.2.1 (by simp), K2.cell hS.2.2.1 (by simp), K2.cell hS.2.2.2.1 (by simp), K2.cell hS.2.2.2.2.1 (by simp), K2.cell hS.2.2.2.2.2.1 (by simp), K2.cell hS.2.2.2.2.2.2 (by simp)⟩
  clear hK K
  try simp only [Act.put, List.setIfInBounds_toArray, List.set_cons_zero, List.set_cons_succ]
  refine wpAnyL_one (i := 22) (by kernel_rfl) rfl (by rfl) (fun K hK => ?_)
  go_simp
  have K02 : Kept [R] w w2 := (KW.trans (K1.mono (by simp))).trans (K2.mono (by simp))
  have hnd : ∀ k, vd.ownBlock = some k → k ∉ [R] := fun k hk => by simp at nR ⊢; intro h; subst h; exact nR.2.1 hk
  have hnf : ∀ k, vf.ownBlock = some k → k ∉ [R] := fun k hk => by simp at nR ⊢; intro h; subst h; exact nR.2.2 hk
  refine (after_any B e (nw % 1000000000) (nw / 1000000000) (t - nw) (.func 13) _ vd vf ds fs _ (K02.at he.out (by simp at nR; simp; exact fun h => nR.1 h.symm)) (K02.owns hd.out hnd) (K02.owns hf.out hnf) h1 h2 h3 (Nat.le_trans hB K02.size) (by omega) (by omega)).mono ?_
  rintro _ w3 ⟨rfl, hA⟩
  obtain ⟨g, c, g', c'', a1, a2, a3, a4, a5, a6, a7, a8, K3⟩ := hA
  have hsz := K02.size
  have nbx : w.heap.size ∉ e :: (vd.ownBlock.toList ++ vf.ownBlock.toList) := by
    have t1 := lt_of_at he.out
    intro h
    simp at h
    rcases h with h | h | h
    · omega
    · have := ownBlock_lt hd.out h; omega
    · have := ownBlock_lt hf.out h; omega
  have nq' : q ∉ e :: (vd.ownBlock.toList ++ vf.ownBlock.toList) := fun h => nq (List.mem_cons_of_mem _ h)
  have nr' : rb ∉ e :: (vd.ownBlock.toList ++ vf.ownBlock.toList) := fun h => nr (List.mem_cons_of_mem _ h)
  refine hK.out _ _ (fun _ hS => ?_) ?_
  · exact ⟨K3.cell hS.1 nbx, K3.cell hS.2.1 nR, K3.cell hS.2.2.1 nR, K3.cell hS.2.2.2.1 nq', K3.cell hS.2.2.2.2.1 nr', K3.cell hS.2.2.2.2.2.1 nr', K3.cell hS.2.2.2.2.2.2 nr'⟩
  clear hK K
  refine wpAnyL_done (by kernel_rfl) ?_ _
  refine NoPanic.normal ?_
  have KW2 : Kept [] W w2 := ((Kept.drew _ _).trans K1).trans K2
  have fin : WatchPost B R e nw (t - nw) (.slice (some ⟨q, j, none⟩) (m + 1) c') vd vf ds fs w w3 := by
    refine ⟨w.heap.size, Nat.le_refl _, K3.at (KW2.at hbx (by simp)) nbx, K3.at (KW2.at hRW (by simp)) nR, g, c, g', c'', a1, a2, a3, ?_, ?_, a6, a7, a8, ?_⟩
    · rcases a4 with h | h
      · exact .inl h
      · exact .inr (by omega)
    · rcases a5 with h | h
      · exact .inl h
      · exact .inr (by omega)
    · exact (K02.mono (by simp)).trans (K3.mono (fun x hx => List.mem_cons_of_mem _ hx))
  go_end0
  exact ⟨rfl, fin⟩
end Go.Proofs.Ybulkcqmy
