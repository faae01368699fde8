import Derived.Test.YbulkcqnmSmall
namespace Go.Proofs.Ybulkcqnm
set_option linter.unusedVariables false
set_option linter.unusedSimpArgs false
open Go.RowKit Go.Conc Go.MuLone

theorem Yba.info26 : (Yba.prog.info? 26).map (fun i => i.bytes) = some 56 := by kernel_rfl
theorem Yba.info30 : (Yba.prog.info? 30).map (fun i => i.bytes) = some 0 := by kernel_rfl

theorem mkMsgs (k : Int) (C : Nat) (hk : k = C) (h1 : k ≤ 2000) (w : World) : (Instr.makeChan 24 (.int .i64 k)).run Yba.prog w = .ok (.chan (some w.heap.size)) (w.alloc (.chan C #[] false 0 0 false)) := by
  obtain ⟨i, hi, hb⟩ := Option.map_eq_some_iff.1 Yba.info26
  subst hk
  exact run_makeChan (P := Yba.prog) (w := w) Yba.underlying24 hi .i64 C (by omega) (by rw [hb]; omega)
theorem mkDone (w : World) : (Instr.makeChan 28 (.int .i64 0)).run Yba.prog w = .ok (.chan (some w.heap.size)) (w.alloc (.chan 0 #[] false 0 0 false)) := by
  obtain ⟨i, hi, hb⟩ := Option.map_eq_some_iff.1 Yba.info30
  exact run_makeChan (P := Yba.prog) (w := w) Yba.underlying28 hi .i64 0 (by omega) (by rw [hb]; omega)

def msg (p : ByteArray) : Value := .agg #[.string ⟨#[]⟩, .string p, .slice none 0 0]
def msgs (L : List ByteArray) : Array Value := (L.map msg).toArray
theorem msgs_size (L : List ByteArray) : (msgs L).size = L.length := by simp [msgs]
theorem getD_of (Z : List ByteArray) (j : Nat) (h : j < Z.length) : Z.getD j .empty = Z[j] := by
  rw [List.getD_eq_getElem?_getD, List.getElem?_eq_getElem h]; rfl
theorem msgs_next (Z : List ByteArray) (j : Nat) (h : j < Z.length) : (msgs (Z.take j)).push (msg (Z.getD j .empty)) = msgs (Z.take (j + 1)) := by
  unfold msgs
  rw [List.take_succ_eq_append_getElem h, List.map_append, getD_of Z j h, List.push_toArray]
  rfl
theorem msgs_first (Z : List ByteArray) (j : Nat) (h : j < Z.length) (m : Value) : ((msgs (Z.drop j)).push m).getD 0 undef = msg (Z.getD j .empty) := by
  unfold msgs
  rw [List.drop_eq_getElem_cons h, List.map_cons, getD_of Z j h, List.push_toArray, List.cons_append]
  generalize List.map msg (Z.drop (j + 1)) = L
  simp
theorem msgs_rest (Z : List ByteArray) (j : Nat) (h : j < Z.length) (m : Value) : ((msgs (Z.drop j)).push m).extract 1 ((msgs (Z.drop j)).push m).size = (msgs (Z.drop (j + 1))).push m := by
  unfold msgs
  rw [List.drop_eq_getElem_cons h, List.map_cons]
  generalize List.map msg (Z.drop (j + 1)) = L
  apply Array.ext'
  simp
  exact List.take_of_length_le (by simp)
def fr1 (fr tp : ByteArray) (D P : Value) (sp bz : Int) (c n : Nat) (j : Value) (u : Nat → Value) : Array Value := #[.string fr, .string tp, D, P, .int .u8 sp, .int .u8 bz, u 6, u 7, u 8, u 9, u 10, u 11, u 12, u 13, .chan (some c), u 15, u 16, u 17, u 18, u 19, u 20, u 21, u 22, u 23, u 24, u 25, u 26, u 27, u 28, u 29, u 30, u 31, u 32, u 33, u 34, P, .int .i64 n, j, u 38, u 39, u 40, u 41, u 42, u 43, u 44, u 45, u 46, u 47, u 48, u 49, u 50, u 51, u 52, u 53, u 54, u 55, u 56, u 57, u 58, u 59, u 60, u 61, u 62, u 63, u 64, u 65, u 66, u 67, u 68, u 69, u 70, u 71, u 72, u 73, u 74, u 75, u 76, u 77, u 78, u 79, u 80, u 81, u 82, u 83, u 84, u 85, u 86, u 87, u 88, u 89, u 90, u 91, u 92, u 93, u 94, u 95, u 96, u 97, u 98, u 99, u 100, u 101, u 102, u 103, u 104, u 105, u 106, u 107, u 108, u 109, u 110, u 111, u 112, u 113, u 114, u 115, u 116, u 117, u 118, u 119, u 120, u 121, u 122, u 123, u 124, u 125, u 126, u 127, u 128, u 129, u 130]
def fr2 (fr tp : ByteArray) (D P : Value) (sp bz : Int) (c n : Nat) (j : Value) (u : Nat → Value) : Array Value := #[.string fr, .string tp, D, P, .int .u8 sp, .int .u8 bz, u 6, u 7, u 8, u 9, u 10, u 11, u 12, u 13, .chan (some c), u 15, u 16, u 17, u 18, u 19, u 20, u 21, u 22, u 23, u 24, u 25, u 26, u 27, u 28, u 29, u 30, u 31, u 32, u 33, u 34, u 35, u 36, u 37, u 38, u 39, u 40, u 41, u 42, u 43, u 44, u 45, u 46, u 47, u 48, u 49, u 50, u 51, u 52, u 53, u 54, u 55, u 56, u 57, u 58, u 59, u 60, u 61, u 62, u 63, u 64, u 65, u 66, u 67, u 68, u 69, u 70, u 71, u 72, u 73, u 74, u 75, u 76, u 77, u 78, P, .int .i64 n, j, u 82, u 83, u 84, u 85, u 86, u 87, u 88, u 89, u 90, u 91, u 92, u 93, u 94, u 95, u 96, u 97, u 98, u 99, u 100, u 101, u 102, u 103, u 104, u 105, u 106, u 107, u 108, u 109, u 110, u 111, u 112, u 113, u 114, u 115, u 116, u 117, u 118, u 119, u 120, u 121, u 122, u 123, u 124, u 125, u 126, u 127, u 128, u 129, u 130]
theorem fr1_of {fr tp : ByteArray} {D P : Value} {sp bz : Int} {c n : Nat} {j : Value} (a : Act) (h : a = ⟨fr1 fr tp D P sp bz c n j (fun i => a.tmps.getD i undef), []⟩) : ∃ u, a = ⟨fr1 fr tp D P sp bz c n j u, []⟩ := ⟨_, h⟩
theorem fr2_of {fr tp : ByteArray} {D P : Value} {sp bz : Int} {c n : Nat} {j : Value} (a : Act) (h : a = ⟨fr2 fr tp D P sp bz c n j (fun i => a.tmps.getD i undef), []⟩) : ∃ u, a = ⟨fr2 fr tp D P sp bz c n j u, []⟩ := ⟨_, h⟩

set_option maxRecDepth 20000 in
set_option maxHeartbeats 4000000 in
theorem walk_main (fr tp : ByteArray) (da : Option Addr) (dl dc : Nat) (zd : Nat → Int) (pa : Option Addr) (pc : Nat) (Z : List ByteArray) (sp bz : Int) (w : World)
    (hn : Z.length ≤ 1024) (hs0 : 0 ≤ sp) (hs1 : sp < 256) (hb0 : 0 ≤ bz) (hb1 : bz < 256) (hdl : dl ≤ 9223372036854775807)
    (hd : ∀ i, i < dl → ∃ b o, da = some ⟨b, o, none⟩ ∧ w.cell? ⟨b, o + i, none⟩ = some (.int .u8 (zd i)))
    (hp : ∀ i, i < Z.length → ∃ b o, pa = some ⟨b, o, none⟩ ∧ w.cell? ⟨b, o + i, none⟩ = some (.string (Z.getD i .empty))) :
    Calls Yba.prog 3 #[.string fr, .string tp, .slice da dl dc, .slice pa Z.length pc, .int .u8 sp, .int .u8 bz] w fun e w' => e = .returned (.bool true) ∧ Below w.heap.size w w' := by
  obtain ⟨C, hC⟩ : ∃ C : Nat, (Z.length : Int) + 1 + sp % 4 = C := ⟨((Z.length : Int) + 1 + sp % 4).toNat, by omega⟩
  have hmc := mkMsgs (C : Int) C rfl (by omega)
  refine calls_of_wpN Yba.func3 rfl ?_
  simp only [Yba.ntmps3, List.size_toArray, List.length_cons, List.length_nil, Nat.reduceAdd, Nat.reduceSub, Array.replicate_succ, Array.replicate_zero, List.push_toArray, List.append_toArray, List.nil_append, List.cons_append]
  refine wpN_seq_k (fun K hK => ?_)
  go_wp2_with fail
  refine wpN_seq_k (fun K hK => ?_)
  go_wp2_with fail
  refine wpN_seq_k (fun K hK => ?_)
  go_wp2_with fail
  refine wpN_seq_k (fun K hK => ?_)
  go_wp2_with fail
  clear hmc
  have hc0 := alloc_at w (.chan C #[] false 0 0 false)
  generalize hW1 : w.alloc (.chan C #[] false 0 0 false) = W1 at *
  have B1 : Below w.heap.size w W1 := by subst hW1; exact (Below.refl _ _).alloc (Nat.le_refl _) _
  have z1 : w.heap.size < W1.heap.size := lt_of_at hc0
  clear hW1
  refine wpN_seq (wpN_seq (wpN_of_wp ?_))
  go_wp2_with fail
  show wpN _ _ _ _ _
  refine wpN_block (wpN_loop (fun m a wr => ∃ j : Nat, m = Z.length - j ∧ j ≤ Z.length ∧ (∃ u, a = ⟨fr1 fr tp (.slice da dl dc) (.slice pa Z.length pc) sp bz w.heap.size Z.length (.int .i64 j) u, []⟩) ∧ wr.heap[w.heap.size]? = some (.chan C (msgs (Z.take j)) false j 0 false) ∧ Below w.heap.size w wr) Z.length ⟨0, rfl, Nat.zero_le _, fr1_of _ rfl, hc0, B1⟩ ?_)
  clear hc0 B1 z1 W1
  rintro m _ wr ⟨j, rfl, hj, ⟨u, rfl⟩, hch, bel⟩
  unfold fr1
  by_cases hlt : j < Z.length
  · obtain ⟨b, o, rfl, hcell⟩ := hp j hlt
    have hsz : (msgs (Z.take j)).size < C := by rw [msgs_size, List.length_take]; omega
    have hnext := msgs_next Z j hlt
    have c0 : wr.cell? ⟨b, o + j, none⟩ = some (.string (Z.getD j .empty)) := (bel.cell (p := ⟨b, o + j, none⟩) (World.block_lt_of_cell? w _ hcell)).trans hcell
    generalize Z.getD j .empty = pj at *
    refine wpN_seq_k (fun K hK => ?_)
    go_wp2_with fail
    refine wpN_seq_k (fun K hK => ?_)
    go_wp2_with fail
    refine wpN_seq (wpN_block (wpN_seq (wpN_of_wp ?_)))
    go_wp2_with fail
    show wpN _ _ _ _ _
    refine wpN_region ?_
    show Rest _ _ _ [0, 1, 2, 3] _ _
    refine Rest.op rfl rfl (fun K hK => ?_)
    go_simp
    refine hK _ _ ?_
    clear hK K
    try simp only [Act.put, List.setIfInBounds_toArray, List.set_cons_zero, List.set_cons_succ]
    refine Rest.op rfl rfl (fun K hK => ?_)
    go_simp
    refine hK _ _ ?_
    clear hK K
    try simp only [Act.put, List.setIfInBounds_toArray, List.set_cons_zero, List.set_cons_succ]
    refine Rest.op rfl rfl (fun K hK => ?_)
    go_simp
    refine hK _ _ ?_
    clear hK K
    try simp only [Act.put, List.setIfInBounds_toArray, List.set_cons_zero, List.set_cons_succ]
    refine Rest.send (c := w.heap.size) (cap := C) (buf := msgs (Z.take j)) (s := j) (r := 0) (tm := false) (v := msg pj) (z := .tuple #[]) (w₁ := wr) rfl rfl ?run hch hsz ?_
    case run => simp [go_sem, execOp, scase, Act.eval, msg]
    rw [hnext]
    refine Rest.nil ?_
    have hch' := heap_setChan wr w.heap.size C (msgs (Z.take (j + 1))) false (j + 1) 0 false (lt_of_at hch)
    have bel' : Below w.heap.size w (wr.setChan w.heap.size C (msgs (Z.take (j + 1))) false (j + 1) 0 false) := below_setChan bel (Nat.le_refl _) _ _ _ _ _ _
    generalize wr.setChan w.heap.size C (msgs (Z.take (j + 1))) false (j + 1) 0 false = wn at *
    clear c0 hnext
    show wpN _ _ _ _ _
    refine wpN_of_wp ?_
    go_wp2_with fail
    refine ⟨Z.length - (j + 1), by omega, j + 1, rfl, by omega, fr1_of _ rfl, hch', bel'⟩
  · obtain rfl : j = Z.length := by omega
    refine wpN_seq_k (fun K hK => ?_)
    go_wp2_with fail
    refine wpN_seq_k (fun K hK => ?_)
    go_wp2_with fail
    have hmd := mkDone
    refine wpN_seq_k (fun K hK => ?_)
    go_wp2_with fail
    refine wpN_seq_k (fun K hK => ?_)
    go_wp2_with fail
    have KA : Kept [] wr ((wr.alloc (.chan 0 #[] false 0 0 false)).alloc (.cells (subCells w.heap.size wr.heap.size 0 (bz % 8)) 38)) := (Kept.alloc _ _ _).trans (Kept.alloc _ _ _)
    have hdn : ((wr.alloc (.chan 0 #[] false 0 0 false)).alloc (.cells (subCells w.heap.size wr.heap.size 0 (bz % 8)) 38)).heap[wr.heap.size]? = some (.chan 0 #[] false 0 0 false) := (Kept.alloc [] _ _).at (alloc_at _ _) (by simp)
    have hsb : ((wr.alloc (.chan 0 #[] false 0 0 false)).alloc (.cells (subCells w.heap.size wr.heap.size 0 (bz % 8)) 38)).heap[wr.heap.size + 1]? = some (.cells (subCells w.heap.size wr.heap.size 0 (bz % 8)) 38) := by
      have := alloc_at (wr.alloc (.chan 0 #[] false 0 0 false)) (.cells (subCells w.heap.size wr.heap.size 0 (bz % 8)) 38)
      simpa using this
    have ltc := lt_of_at hch
    have hchA := KA.at hch (by simp)
    have belA : Below w.heap.size w ((wr.alloc (.chan 0 #[] false 0 0 false)).alloc (.cells (subCells w.heap.size wr.heap.size 0 (bz % 8)) 38)) := bel.trans (KA.below (by omega) (by simp))
    rw [List.take_length] at hchA
    clear hmd
    refine wpN_seq_k (fun K hK => ?_)
    go_wp2_with fail
    refine (deliver_any (wr.heap.size + 1) w.heap.size wr.heap.size C Z.length 0 (msgs Z) (bz % 8) fr tp da dl dc _ hsb hchA hdn (by rw [msgs_size]; omega) (by omega) (by omega) (by omega)).mono ?_
    rintro _ w2 ⟨rfl, hs2, hc2, K2⟩
    have bel2 : Below w.heap.size w w2 := belA.trans (K2.below (by have := KA.size; omega) (by simp; omega))
    have c7 : w2.cell? ⟨wr.heap.size + 1, 7, none⟩ = some (.bool false) := cell_at hs2 7 rfl
    have c6 : w2.cell? ⟨wr.heap.size + 1, 6, none⟩ = some (.int .i64 (bz % 8)) := cell_at hs2 6 rfl
    clear hsb hdn hchA belA KA K2 hs2 hch
    go_wp2_with fail
    have hlen := fun ty => run_len_chan (P := Yba.prog) (w := w2) 24 ty Yba.underlying24 hc2
    have hbs : ((msgs Z).push (.agg #[.string fr, .string tp, .slice da dl dc])).size = Z.length + 1 := by simp [msgs_size]
    rw [hbs] at hlen
    refine wpN_seq_k (fun K hK => ?_)
    go_wp2_with fail
    clear c6 c7 hlen
    have e0 : (msgs Z).push (.agg #[.string fr, .string tp, .slice da dl dc]) = (msgs (Z.drop 0)).push (.agg #[.string fr, .string tp, .slice da dl dc]) := by rw [List.drop_zero]
    rw [e0] at hc2
    clear e0 hbs
    refine wpN_seq (wpN_seq (wpN_of_wp ?_))
    go_wp2_with fail
    show wpN _ _ _ _ _
    refine wpN_block (wpN_loop (fun m a wr => ∃ j : Nat, m = Z.length - j ∧ j ≤ Z.length ∧ (∃ u, a = ⟨fr2 fr tp (.slice da dl dc) (.slice pa Z.length pc) sp bz w.heap.size Z.length (.int .i64 j) u, []⟩) ∧ wr.heap[w.heap.size]? = some (.chan C ((msgs (Z.drop j)).push (.agg #[.string fr, .string tp, .slice da dl dc])) false (Z.length + 1) j false) ∧ Below w.heap.size w wr) Z.length ⟨0, rfl, Nat.zero_le _, fr2_of _ rfl, hc2, bel2⟩ ?_)
    clear hc2 bel2 w2 bel ltc wr u
    rintro m _ wr ⟨j, rfl, hj, ⟨u, rfl⟩, hch, bel⟩
    unfold fr2
    have ltc := lt_of_at hch
    have q22 : ∀ w' : World, (binOp .neq 22 (.slice none 0 0) (.slice none 0 0)).run Yba.prog w' = .ok (.bool false) w' := fun w' => by kernel_rfl
    by_cases hlt : j < Z.length
    · obtain ⟨b, o, rfl, hcell⟩ := hp j hlt
      have h1st := msgs_first Z j hlt (.agg #[.string fr, .string tp, .slice da dl dc])
      have hrest := msgs_rest Z j hlt (.agg #[.string fr, .string tp, .slice da dl dc])
      have hsz : 0 < ((msgs (Z.drop j)).push (.agg #[.string fr, .string tp, .slice da dl dc])).size := by simp
      have c0 : wr.cell? ⟨b, o + j, none⟩ = some (.string (Z.getD j .empty)) := (bel.cell (p := ⟨b, o + j, none⟩) (World.block_lt_of_cell? w _ hcell)).trans hcell
      generalize Z.getD j .empty = pj at *
      refine wpN_seq_k (fun K hK => ?_)
      go_wp2_with fail
      refine wpN_seq_k (fun K hK => ?_)
      go_wp2_with fail
      refine wpN_seq (wpN_block (wpN_seq_k (fun K hK => ?_)))
      go_wp2_with fail
      refine wpN_seq (wpN_region ?_)
      show Rest _ _ _ [0, 1, 2, 3] _ _
      refine Rest.op rfl rfl (fun K hK => ?_)
      go_simp
      refine hK _ _ ?_
      clear hK K
      try simp only [Act.put, List.setIfInBounds_toArray, List.set_cons_zero, List.set_cons_succ]
      refine Rest.recv (c := w.heap.size) (cap := C) (buf := (msgs (Z.drop j)).push (.agg #[.string fr, .string tp, .slice da dl dc])) (s := Z.length + 1) (r := j) (tm := false) (closed := false) (ok := false) (z := .agg #[.string ⟨#[]⟩, .string ⟨#[]⟩, .slice none 0 0]) (w₁ := wr) rfl rfl ?run hch hsz ?_
      case run => simp [go_sem, execOp, rcase, Act.eval]
      rw [h1st, hrest]
      simp only [got, msg, Bool.false_eq_true, if_false]
      have hch' := heap_setChan wr w.heap.size C ((msgs (Z.drop (j + 1))).push (.agg #[.string fr, .string tp, .slice da dl dc])) false (Z.length + 1) (j + 1) false ltc
      have bel' : Below w.heap.size w (wr.setChan w.heap.size C ((msgs (Z.drop (j + 1))).push (.agg #[.string fr, .string tp, .slice da dl dc])) false (Z.length + 1) (j + 1) false) := below_setChan bel (Nat.le_refl _) _ _ _ _ _ _
      generalize wr.setChan w.heap.size C ((msgs (Z.drop (j + 1))).push (.agg #[.string fr, .string tp, .slice da dl dc])) false (Z.length + 1) (j + 1) false = wn at *
      clear c0 hrest h1st hsz
      try simp only [Act.put, List.setIfInBounds_toArray, List.set_cons_zero, List.set_cons_succ]
      refine Rest.op rfl rfl (fun K hK => ?_)
      go_simp
      refine hK _ _ ?_
      clear hK K
      try simp only [Act.put, List.setIfInBounds_toArray, List.set_cons_zero, List.set_cons_succ]
      refine Rest.op rfl rfl (fun K hK => ?_)
      go_simp
      refine hK _ _ ?_
      clear hK K
      try simp only [Act.put, List.setIfInBounds_toArray, List.set_cons_zero, List.set_cons_succ]
      refine Rest.nil ?_
      have hch2 := (Kept.alloc [] wn (.cells #[.string ⟨#[]⟩, .string pj, .slice none 0 0] 26)).at hch' (by simp)
      have bel2 : Below w.heap.size w (wn.alloc (.cells #[.string ⟨#[]⟩, .string pj, .slice none 0 0] 26)) := bel'.alloc (Nat.le_of_lt (lt_of_at hch')) _
      show wpN _ _ _ _ _
      refine wpN_of_wp ?_
      go_wp2_with fail
      show wpN _ _ _ _ _
      refine wpN_of_wp ?_
      go_wp2_with fail
      exact ⟨Z.length - (j + 1), by omega, j + 1, rfl, by omega, fr2_of _ rfl, hch2, bel2⟩
    · obtain rfl : j = Z.length := by omega
      rw [List.drop_length] at hch
      have hch : wr.heap[w.heap.size]? = some (.chan C #[.agg #[.string fr, .string tp, .slice da dl dc]] false (Z.length + 1) Z.length false) := hch
      refine wpN_seq_k (fun K hK => ?_)
      go_wp2_with fail
      refine wpN_seq_k (fun K hK => ?_)
      go_wp2_with fail
      refine wpN_seq (wpN_region ?_)
      show Rest _ _ _ [0, 1, 2, 3] _ _
      refine Rest.op rfl rfl (fun K hK => ?_)
      go_simp
      refine hK _ _ ?_
      clear hK K
      try simp only [Act.put, List.setIfInBounds_toArray, List.set_cons_zero, List.set_cons_succ]
      refine Rest.recv (c := w.heap.size) (cap := C) (buf := #[.agg #[.string fr, .string tp, .slice da dl dc]]) (s := Z.length + 1) (r := Z.length) (tm := false) (closed := false) (ok := false) (z := .agg #[.string ⟨#[]⟩, .string ⟨#[]⟩, .slice none 0 0]) (w₁ := wr) rfl rfl ?run hch (by simp) ?_
      case run => simp [go_sem, execOp, rcase, Act.eval]
      rw [show (#[Value.agg #[.string fr, .string tp, .slice da dl dc]] : Array Value).extract 1 (#[Value.agg #[.string fr, .string tp, .slice da dl dc]] : Array Value).size = #[] by simp]
      rw [show (#[Value.agg #[.string fr, .string tp, .slice da dl dc]] : Array Value).getD 0 undef = .agg #[.string fr, .string tp, .slice da dl dc] by simp]
      simp only [got, Bool.false_eq_true, if_false]
      have hch' := heap_setChan wr w.heap.size C #[] false (Z.length + 1) (Z.length + 1) false ltc
      have bel' : Below w.heap.size w (wr.setChan w.heap.size C #[] false (Z.length + 1) (Z.length + 1) false) := below_setChan bel (Nat.le_refl _) _ _ _ _ _ _
      generalize wr.setChan w.heap.size C #[] false (Z.length + 1) (Z.length + 1) false = wn at *
      try simp only [Act.put, List.setIfInBounds_toArray, List.set_cons_zero, List.set_cons_succ]
      refine Rest.op rfl rfl (fun K hK => ?_)
      go_simp
      refine hK _ _ ?_
      clear hK K
      try simp only [Act.put, List.setIfInBounds_toArray, List.set_cons_zero, List.set_cons_succ]
      refine Rest.op rfl rfl (fun K hK => ?_)
      go_simp
      refine hK _ _ ?_
      clear hK K
      try simp only [Act.put, List.setIfInBounds_toArray, List.set_cons_zero, List.set_cons_succ]
      refine Rest.nil ?_
      have hch2 := (Kept.alloc [] wn (.cells #[.string fr, .string tp, .slice da dl dc] 26)).at hch' (by simp)
      have bel2 : Below w.heap.size w (wn.alloc (.cells #[.string fr, .string tp, .slice da dl dc] 26)) := bel'.alloc (Nat.le_of_lt (lt_of_at hch')) _
      show wpN _ _ _ _ _
      refine wpN_of_wp ?_
      go_wp2_with fail
      refine (equal_self da dl dc zd _ hdl (fun i hi => ?_)).mono ?_
      · obtain ⟨b, o, e, hc⟩ := hd i hi
        exact ⟨b, o, e, (bel2.cell (p := ⟨b, o + i, none⟩) (World.block_lt_of_cell? w _ hc)).trans hc⟩
      rintro _ w3 ⟨rfl, K3⟩
      have hch3 := K3.at hch2 (by simp)
      have bel3 := bel2.trans (K3.below (B := w.heap.size) (Nat.le_of_lt (lt_of_at hch2)) (by simp))
      go_wp2_with fail
      refine (open_any w.heap.size C (Z.length + 1) (Z.length + 1) w3 hch3).mono ?_
      rintro _ _ ⟨rfl, rfl⟩
      go_wp2_with fail
      go_ret
      exact ⟨rfl, bel3⟩
end Go.Proofs.Ybulkcqnm
