import Derived.Test.YbulkcqmySub
import Derived.Test.YbulkcqmyBase
import Derived.Test.YbulkcqmyLast
namespace Go.Proofs.Ybulkcqmy
set_option linter.unusedVariables false
set_option linter.unusedSimpArgs false
open Go.RowKit

theorem Yba.info29 : (Yba.prog.info? 29).map (fun i => (i.zero, i.size, i.bytes)) = some (some (.int .i64 0), 1, 8) := by kernel_rfl
theorem Yba.info1 : (Yba.prog.info? 1).map (fun i => (i.zero, i.size, i.bytes)) = some (some .nilFunc, 1, 8) := by kernel_rfl
theorem Yba.info3 : (Yba.prog.info? 3).map (fun i => (i.zero, i.size, i.bytes)) = some (some (.int .i64 0), 1, 8) := by kernel_rfl

set_option maxHeartbeats 400000 in
theorem now_any (e : Nat) (x y : Int) (vd vf : Value) (w : World) (he : w.heap[e]? = some (.cells #[.int .u64 x, .int .i64 y, .pointer none, vd, vf] 33)) :
    Calls Yba.prog 40 #[.pointer (some ⟨e, 0, none⟩)] w fun r w' => r = .returned (.agg #[.int .u64 x, .int .i64 y, .pointer none]) ∧ Below w.heap.size w w' := by
  have hlt := lt_of_at he
  have c0 : w.cell? ⟨e, 0, none⟩ = some (.int .u64 x) := cell_at he 0 rfl
  have c1 : w.cell? ⟨e, 1, none⟩ = some (.int .i64 y) := cell_at he 1 rfl
  have c2 : w.cell? ⟨e, 2, none⟩ = some (.pointer none) := cell_at he 2 rfl
  clear he
  go_enter Yba.func40, Yba.ntmps40
  go_wp2
  refine bodyPost_ret (v := .agg #[.int .u64 x, .int .i64 y, .pointer none]) (by simp [results, Yba.results40, go_sem]) rfl ⟨rfl, ?_⟩
  exact (Below.refl _ _).alloc (Nat.le_refl _) _

set_option maxHeartbeats 400000 in
theorem done_any (i : Int) (c k : Addr) (w : World) :
    Calls Yba.prog 5 #[.int .i64 i, .pointer (some c), .pointer (some k)] w fun r w' => r = .returned (.func (.func 11) #[] #[.pointer (some ⟨w.heap.size + 1, 0, none⟩), .pointer (some ⟨w.heap.size, 0, none⟩), .pointer (some ⟨w.heap.size + 2, 0, none⟩)]) ∧
      w' = ((w.alloc (.cells #[.int .i64 i] 3)).alloc (.cells #[.pointer (some c)] 39)).alloc (.cells #[.pointer (some k)] 40) := by
  have hmf : ∀ (fn : Fn) (first cap : Array Value) (w : World), (Instr.makeFunc fn first cap).run Yba.prog w = .ok (.func fn first cap) w := fun _ _ _ _ => rfl
  go_enter Yba.func5, Yba.ntmps5
  go_wp2
  go_ret
  exact ⟨rfl, rfl⟩

set_option maxHeartbeats 400000 in
theorem unavailable_any (s : ByteArray) (w : World) :
    Calls Yba.prog 15 #[.string s] w fun r w' => r = .returned (.pointer (some ⟨w.heap.size, 0, none⟩)) ∧ w' = w.alloc (.cells #[.int .u8 1, .string s] 78) := by
  go_enter Yba.func15, Yba.ntmps15
  go_wp2
  go_ret
  exact ⟨rfl, rfl⟩

theorem ownBlock_lt {w : World} {base : Nat} {t : TypeId} {size : Nat} {v : Value} {n : Nat} {xs : List Value} (h : w.ownsRow base t size v n xs) {g : Nat} (hg : v.ownBlock = some g) : g < w.heap.size := (h.lt g hg).2

/-- What '(*zzs4613benv).After' leaves. -/
def AfterPost (B e : Nat) (x y d : Int) (fn : Fn) (cap : Array Value) (vd vf : Value) (ds : List Int) (fs : List Value) (w w' : World) : Prop := ∃ g c g' c',
      w'.heap[e]? = some (.cells #[.int .u64 x, .int .i64 y, .pointer none, .slice (some ⟨g, 0, none⟩) (ds.length + 1) c, .slice (some ⟨g', 0, none⟩) (fs.length + 1) c'] 33) ∧
      w'.ownsRow B 29 1 (.slice (some ⟨g, 0, none⟩) (ds.length + 1) c) (ds.length + 1) (ds.map (.int .i64) ++ [.int .i64 d]) ∧
      w'.ownsRow B 1 1 (.slice (some ⟨g', 0, none⟩) (fs.length + 1) c') (fs.length + 1) (fs ++ [.func fn #[] cap]) ∧
      (vd.ownBlock = some g ∨ w.heap.size ≤ g) ∧ (vf.ownBlock = some g' ∨ w.heap.size ≤ g') ∧ g ≠ g' ∧ g ≠ e ∧ g' ≠ e ∧
      Kept (e :: (vd.ownBlock.toList ++ vf.ownBlock.toList)) w w'

set_option maxHeartbeats 1000000 in
theorem after_any (B e : Nat) (x y d : Int) (fn : Fn) (cap : Array Value) (vd vf : Value) (ds : List Int) (fs : List Value) (w : World) (he : w.heap[e]? = some (.cells #[.int .u64 x, .int .i64 y, .pointer none, vd, vf] 33))
    (hd : w.ownsRow B 29 1 vd ds.length (ds.map (.int .i64))) (hf : w.ownsRow B 1 1 vf fs.length fs) (h1 : vd.ownBlock ≠ some e) (h2 : vf.ownBlock ≠ some e) (h3 : ∀ g, vd.ownBlock = some g → vf.ownBlock ≠ some g)
    (hB : B ≤ w.heap.size) (l1 : ds.length ≤ 100) (l2 : fs.length ≤ 100) :
    Calls Yba.prog 38 #[.pointer (some ⟨e, 0, none⟩), .int .i64 d, .func fn #[] cap] w fun r w' => r = .returned (.tuple #[]) ∧ AfterPost B e x y d fn cap vd vf ds fs w w' := by
  have hlt := lt_of_at he
  have c0 : w.cell? ⟨e, 3, none⟩ = some vd := cell_at he 3 rfl
  have c1 : w.cell? ⟨e, 4, none⟩ = some vf := cell_at he 4 rfl
  obtain ⟨i0, hi, hz0, hz1, hz2⟩ := info_parts Yba.info29
  obtain ⟨j0, hj, hy0, hy1, hy2⟩ := info_parts Yba.info1
  go_enter Yba.func38, Yba.ntmps38
  go_wp2_with (at_builtin; refine wpList_append_lies _ rfl (.tmp 10) (.tmp 12) 30 (by rfl) B 29 i0 (.int .i64 0) 1 8 Yba.underlying30 hi hz0 hz1 hz2 rfl (by decide) vd ds.length (ds.map (.int .i64)) (by rfl) (hd.alloc _) ⟨w.heap.size, 0, none⟩ 1 1 [.int .i64 d] (by rfl) rfl ?c1 ?c2 (by omega) ?c3 ?c4 ?c5 (w.heap.size + 1) (by simp) ?_)
  case c1 => exact World.news_of_block (cs := #[.int .i64 d]) (alloc_at _ _)
  case c2 => intro u hu; simp at hu; subst hu; rfl
  case c3 => unfold maxLen; omega
  case c4 => omega
  case c5 => simp; omega
  intro g c w1 hown hgrow hat hlt1
  have K1 : Kept vd.ownBlock.toList w w1 := Kept.grownAlloc hgrow
  have hge : g ≠ e := by
    rcases hat with hat | hat
    · intro h; subst h; exact h1 hat
    · omega
  have he1 : w1.heap[e]? = some (.cells #[.int .u64 x, .int .i64 y, .pointer none, vd, vf] 33) := K1.at he (not_mem_toList h1)
  have hf1 : w1.ownsRow B 1 1 vf fs.length fs := K1.owns hf (fun k hk => not_mem_toList fun h => h3 k h hk)
  have hs1 := K1.size
  have hgf : ∀ k, vf.ownBlock = some k → k ≠ g := by
    intro k hk e
    subst e
    rcases hat with hat | hat
    · exact h3 _ hat hk
    · have := ownBlock_lt hf hk; omega
  have hat' : vd.ownBlock = some g ∨ w.heap.size ≤ g := by rcases hat with h | h; exact .inl h; exact .inr (by omega)
  have H := And.intro hown (And.intro hat' (And.intro hgf hlt1))
  have hH := (show Hid _ from H)
  clear hown hgrow hat hat' hgf H c0 c1 he
  have c3 : w1.cell? ⟨e, 3, none⟩ = some vd := cell_at he1 3 rfl
  have f3 : w1.frozen? ⟨e, 3, none⟩ = false := frozen_at he1 3
  have he2 := set_at he1 3 (.slice (some ⟨g, 0, none⟩) (ds.length + 1) c)
  have K2 : Kept [e] w1 (w1.setCell ⟨e, 3, none⟩ (.slice (some ⟨g, 0, none⟩) (ds.length + 1) c)) := Kept.setCell _ _ _ (by simp)
  have hf2 := K2.owns hf1 (fun k hk => by simp; intro h; subst h; exact h2 hk)
  have hd2 := K2.owns hH.out.1 (fun k hk => by simp [Value.ownBlock] at hk; simp; omega)
  have hs2 := K2.size
  have hse : e < w1.heap.size := by omega
  have c4 : (w1.setCell ⟨e, 3, none⟩ (.slice (some ⟨g, 0, none⟩) (ds.length + 1) c)).cell? ⟨e, 4, none⟩ = some vf := cell_at he2 4 rfl
  go_wp2_with (at_builtin; refine wpList_append_lies _ rfl (.tmp 20) (.tmp 22) 31 (by rfl) B 1 j0 .nilFunc 1 8 Yba.underlying31 hj hy0 hy1 hy2 rfl (by decide) vf fs.length fs (by rfl) (hf2.alloc _) ⟨w1.heap.size, 0, none⟩ 1 1 [.func fn #[] cap] (by rfl) rfl ?c1 ?c2 (by omega) ?c3 ?c4 ?c5 (w1.heap.size + 1) (by simp) ?_)
  case c1 => exact World.news_of_block (cs := #[.func fn #[] cap]) (by have := alloc_at (w1.setCell ⟨e, 3, none⟩ (.slice (some ⟨g, 0, none⟩) (ds.length + 1) c)) (Obj.cells #[Value.func fn #[] cap] 1); simpa using this)
  case c2 => intro u hu; simp at hu; subst hu; rfl
  case c3 => unfold maxLen; omega
  case c4 => omega
  case c5 => simp; omega
  intro g' c' w3 hown3 hgrow3 hat3 hlt3
  have K3 := Kept.grownAlloc hgrow3
  have he3 := K3.at he2 (not_mem_toList h2)
  have hd3 := K3.owns hd2 (fun k hk => not_mem_toList fun h => by simp [Value.ownBlock] at hk; exact hH.out.2.2.1 k h hk.symm)
  have hs3 := K3.size
  have hge' : g' ≠ e := by
    rcases hat3 with hat | hat
    · intro h; subst h; exact h2 hat
    · omega
  have hgg : g ≠ g' := by
    rcases hat3 with hat | hat
    · intro h; subst h; exact hH.out.2.2.1 _ hat rfl
    · omega
  have hat' : vf.ownBlock = some g' ∨ w.heap.size ≤ g' := by rcases hat3 with h | h; exact .inl h; exact .inr (by omega)
  have c5 : w3.cell? ⟨e, 4, none⟩ = some vf := cell_at he3 4 rfl
  have f5 : w3.frozen? ⟨e, 4, none⟩ = false := frozen_at he3 4
  have K4 : Kept [e] w3 (w3.setCell ⟨e, 4, none⟩ (.slice (some ⟨g', 0, none⟩) (fs.length + 1) c')) := Kept.setCell _ _ _ (by simp)
  have fin : AfterPost B e x y d fn cap vd vf ds fs w (w3.setCell ⟨e, 4, none⟩ (.slice (some ⟨g', 0, none⟩) (fs.length + 1) c')) := by
    refine ⟨g, c, g', c', set_at he3 4 _, K4.owns hd3 (fun k hk => ?_), K4.owns hown3 (fun k hk => ?_), hH.out.2.1, hat', hgg, hge, hge', ?_⟩
    · simp [Value.ownBlock] at hk; simp; omega
    · simp [Value.ownBlock] at hk; simp; omega
    · exact ((((K1.mono (by simp +contextual)).trans (K2.mono (by simp))).trans (K3.mono (by simp +contextual))).trans (K4.mono (by simp)))
  clear hown3 hgrow3 hat3 he3 hd3 hat' K4 K3 he2 hf2 hd2 c4 c3 f3 K2 K1 hH
  go_wp2_with fail
  go_end0
  exact ⟨rfl, fin⟩

/-- What the closure that 'zzs4613bdone' makes leaves. -/
def DonePost (B c : Nat) (i : Int) (vc : Value) (cs : List Int) (w w' : World) : Prop := ∃ g k,
      w'.heap[c]? = some (.cells #[.slice (some ⟨g, 0, none⟩) (cs.length + 1) k] 34) ∧
      w'.ownsRow B 3 1 (.slice (some ⟨g, 0, none⟩) (cs.length + 1) k) (cs.length + 1) (cs.map (.int .i64) ++ [.int .i64 i]) ∧
      (vc.ownBlock = some g ∨ w.heap.size ≤ g) ∧ g ≠ c ∧ Kept (c :: vc.ownBlock.toList) w w'

set_option maxHeartbeats 1000000 in
theorem doneC_any (B c k re b1 b2 b3 : Nat) (i : Int) (s : ByteArray) (vc : Value) (cs : List Int) (w : World) (hc : w.heap[c]? = some (.cells #[vc] 34)) (hown : w.ownsRow B 3 1 vc cs.length (cs.map (.int .i64))) (h1 : vc.ownBlock ≠ some c)
    (hb1 : w.heap[b1]? = some (.cells #[.pointer (some ⟨c, 0, none⟩)] 39)) (hb2 : w.heap[b2]? = some (.cells #[.int .i64 i] 3)) (hb3 : w.heap[b3]? = some (.cells #[.pointer (some ⟨k, 0, none⟩)] 40))
    (hre : w.heap[re]? = some (.cells #[.int .u8 1, .string s] 78)) (n1 : re ≠ c) (n2 : vc.ownBlock ≠ some re) (n3 : vc.ownBlock ≠ some b1) (n4 : vc.ownBlock ≠ some b2) (hB : B ≤ w.heap.size) (l1 : cs.length ≤ 2000) :
    Calls Yba.prog 11 #[.agg #[.int .u64 0, .int .u64 0, .int .u64 0], .iface 74 (.pointer (some ⟨re, 0, none⟩)), .pointer (some ⟨b1, 0, none⟩), .pointer (some ⟨b2, 0, none⟩), .pointer (some ⟨b3, 0, none⟩)] w fun r w' => r = .returned (.tuple #[]) ∧ DonePost B c i vc cs w w' := by
  have hlt := lt_of_at hc
  have t1 := lt_of_at hb1
  have t2 := lt_of_at hb2
  have t3 := lt_of_at hb3
  have c0 : w.cell? ⟨c, 0, none⟩ = some vc := cell_at hc 0 rfl
  have c1 : w.cell? ⟨b1, 0, none⟩ = some (.pointer (some ⟨c, 0, none⟩)) := cell_at hb1 0 rfl
  have c2 : w.cell? ⟨b2, 0, none⟩ = some (.int .i64 i) := cell_at hb2 0 rfl
  obtain ⟨i0, hi, hz0, hz1, hz2⟩ := info_parts Yba.info3
  have HO : Hid (w.ownsRow B 3 1 vc cs.length (cs.map (.int .i64))) := hown
  clear hown
  have hta : ∀ w, (Instr.typeAssert (.iface 74 (.pointer (some ⟨re, 0, none⟩))) 66 74 true).run Yba.prog w = .ok (.tuple #[.pointer (some ⟨re, 0, none⟩), .bool true]) w := fun _ => by kernel_rfl
  go_enter Yba.func11, Yba.ntmps11
  go_wp2
  refine wp_region_last (fun w' => w'.cell? ⟨c, 0, none⟩ = some vc ∧ w'.cell? ⟨b1, 0, none⟩ = some (.pointer (some ⟨c, 0, none⟩)) ∧ w'.cell? ⟨b2, 0, none⟩ = some (.int .i64 i)) [0, 1, 3, 4] (by kernel_rfl) ?_
  generalize hW : (w.alloc (Obj.cells #[Value.int IntKind.u64 0, Value.int IntKind.u64 0, Value.int IntKind.u64 0] 73)).drew = W
  have hS : W.cell? ⟨c, 0, none⟩ = some vc ∧ W.cell? ⟨b1, 0, none⟩ = some (.pointer (some ⟨c, 0, none⟩)) ∧ W.cell? ⟨b2, 0, none⟩ = some (.int .i64 i) := by subst hW; simp [*, World.cell?_alloc_some]
  refine wpAnyL_take (i := 0) (v := .pointer (some ⟨c, 0, none⟩)) rfl (by kernel_rfl) (by kernel_rfl) (by kernel_rfl) (by kernel_rfl) (fun _ _ _ h => h) (by rfl) (fun w' hS => by go_simp) hS ?_
  try simp only [Act.put, List.setIfInBounds_toArray, List.set_cons_zero, List.set_cons_succ]
  refine wpAnyL_take (i := 1) (v := .pointer (some ⟨c, 0, none⟩)) rfl (by kernel_rfl) (by kernel_rfl) (by kernel_rfl) (by kernel_rfl) (fun _ _ _ h => h) (by rfl) (fun w' hS => by go_simp) hS ?_
  try simp only [Act.put, List.setIfInBounds_toArray, List.set_cons_zero, List.set_cons_succ]
  refine wpAnyL_free (i := 2) (v := .pointer (some ⟨c, 0, none⟩)) rfl (by kernel_rfl) (by kernel_rfl) (by kernel_rfl) (fun _ _ _ h => h) (by rfl) (fun w' => by go_simp) ?_
  try simp only [Act.put, List.setIfInBounds_toArray, List.set_cons_zero, List.set_cons_succ]
  refine wpAnyL_take (i := 3) (v := vc) rfl (by kernel_rfl) (by kernel_rfl) (by kernel_rfl) (by kernel_rfl) (fun _ _ _ h => h) (by rfl) (fun w' hS => by go_simp) hS ?_
  try simp only [Act.put, List.setIfInBounds_toArray, List.set_cons_zero, List.set_cons_succ]
  refine wpAnyL_take (i := 4) (v := .int .i64 i) rfl (by kernel_rfl) (by kernel_rfl) (by kernel_rfl) (by kernel_rfl) (fun _ _ _ h => h) (by rfl) (fun w' hS => by go_simp) hS ?_
  try simp only [Act.put, List.setIfInBounds_toArray, List.set_cons_zero, List.set_cons_succ]
  refine wpAnyL_one (i := 5) (by kernel_rfl) rfl (by rfl) (fun K hK => ?_)
  go_simp
  refine hK.out _ _ (fun _ h => by simp [h, World.cell?_alloc_some]) ?_
  clear hK K
  have hWs : W.heap.size = w.heap.size + 1 := by subst hW; simp
  have KW : Kept [] w W := by subst hW; exact (Kept.alloc _ _ _).trans (Kept.drew _ _)
  have HW : W.ownsRow B 3 1 vc cs.length (cs.map (.int .i64)) := KW.owns HO.out (by simp)
  refine wpAnyL_one (i := 6) (by kernel_rfl) rfl (by rfl) (fun K hK => ?_)
  refine wp_append_lies _ (.tmp 12) (.tmp 14) 34 (by rfl) B 3 i0 (.int .i64 0) 1 8 Yba.underlying34 hi hz0 hz1 hz2 rfl (by decide) vc cs.length (cs.map (.int .i64)) (by rfl) (HW.alloc _) ⟨W.heap.size, 0, none⟩ 1 1 [.int .i64 i] (by rfl) rfl (World.news_of_block (cs := #[.int .i64 i]) (alloc_at _ _)) (by intro u hu; simp at hu; subst hu; rfl) (by omega) (by unfold maxLen; omega) (by omega) (by simp; omega) (W.heap.size + 1) (by simp) ?_
  intro g k w1 hown hgrow hat hlt1
  have K1 : Kept vc.ownBlock.toList W w1 := Kept.grownAlloc hgrow
  have hs1 := K1.size
  have hc1 := K1.at (KW.at hc (by simp)) (not_mem_toList h1)
  have hre1 := K1.at (KW.at hre (by simp)) (not_mem_toList n2)
  have hgc : g ≠ c := by
    rcases hat with hat | hat
    · intro h; subst h; exact h1 hat
    · omega
  have d0 : w1.cell? ⟨c, 0, none⟩ = some vc := cell_at hc1 0 rfl
  have f0 : w1.frozen? ⟨c, 0, none⟩ = false := frozen_at hc1 0
  refine hK.out _ _ (fun _ _ => ?_) ?_
  · exact ⟨d0, cell_at (K1.at (KW.at hb1 (by simp)) (not_mem_toList n3)) 0 rfl, cell_at (K1.at (KW.at hb2 (by simp)) (not_mem_toList n4)) 0 rfl⟩
  clear hK K
  try simp only [Act.put, List.setIfInBounds_toArray, List.set_cons_zero, List.set_cons_succ]
  refine wpAnyL_free (i := 7) (v := .pointer (some ⟨c, 0, none⟩)) rfl (by kernel_rfl) (by kernel_rfl) (by kernel_rfl) (fun _ _ _ h => h) (by rfl) (fun w' => by go_simp) ?_
  try simp only [Act.put, List.setIfInBounds_toArray, List.set_cons_zero, List.set_cons_succ]
  refine wpAnyL_end (i := 8) (by kernel_rfl) rfl (by rfl) (by kernel_rfl) (fun K hK => ?_)
  go_simp
  refine hK.out _ _ ?_
  clear hK K
  refine wpAnyL_done (by kernel_rfl) ?_ _
  have hA := K1.at (show W.heap[w.heap.size]? = some (.cells #[.int .u64 0, .int .u64 0, .int .u64 0] 73) by subst hW; exact alloc_at _ _) (not_mem_toList fun h => by have := ownBlock_lt HO.out h; omega)
  have K2 : Kept [c] w1 (w1.setCell ⟨c, 0, none⟩ (.slice (some ⟨g, 0, none⟩) (cs.length + 1) k)) := Kept.setCell _ _ _ (by simp)
  have fin : DonePost B c i vc cs w (w1.setCell ⟨c, 0, none⟩ (.slice (some ⟨g, 0, none⟩) (cs.length + 1) k)) := by
    refine ⟨g, k, set_at hc1 0 _, K2.owns hown (fun k hk => ?_), ?_, hgc, ?_⟩
    · simp [Value.ownBlock] at hk; simp; omega
    · rcases hat with h | h
      · exact .inl h
      · exact .inr (by omega)
    · exact ((KW.mono (by simp)).trans (K1.mono (by simp +contextual))).trans (K2.mono (by simp))
  have hre2 := K2.at hre1 (by simpa using n1)
  have hA2 := K2.at hA (by simp; omega)
  generalize (w1.setCell ⟨c, 0, none⟩ (.slice (some ⟨g, 0, none⟩) (cs.length + 1) k)) = w2 at *
  have r0 : w2.cell? ⟨re, 0, none⟩ = some (.int .u8 1) := cell_at hre2 0 rfl
  have a0 : w2.cell? ⟨w.heap.size, 0, none⟩ = some (.int .u64 0) := cell_at hA2 0 rfl
  have a1 : w2.cell? ⟨w.heap.size, 1, none⟩ = some (.int .u64 0) := cell_at hA2 1 rfl
  have a2 : w2.cell? ⟨w.heap.size, 2, none⟩ = some (.int .u64 0) := cell_at hA2 2 rfl
  clear hA hA2 hre2 K1 K2 KW hown hgrow hat hW HW hWs hS hc1 hre1 d0 f0 HO hc hb1 hb2 hb3 hre hs1 hlt1
  go_wp2
  go_end0
  exact ⟨rfl, fin⟩
end Go.Proofs.Ybulkcqmy
