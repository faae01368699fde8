import Derived.Test.YbulkcqnmFmtIp
namespace Go.Proofs.YbulkcqnmFmt
set_option linter.unusedVariables false
set_option linter.unusedSimpArgs false
open Go.RowKit

theorem eql33 (z : Addr) (w : World) : (Op.equalIn 9999 33 (.pointer (some z)) (.pointer (some z))).run Ybaf.prog w = .ok true w := by
  obtain ⟨j, hj⟩ : ∃ j, Ybaf.prog.info? 86 = some j := ⟨(Ybaf.prog.info? 86).getD default, by kernel_rfl⟩
  have h : ∀ d : Nat, (Op.equalIn (d + 1) 33 (.pointer (some z)) (.pointer (some z))).run Ybaf.prog w = .ok true w := fun d => by
    simp [Op.equalIn, run_underlying Ybaf.underlying33, sizeOf, typeInfo, hj, run_sameAddr_same]
  exact h 9998
theorem eql35 (z : Addr) (w : World) : (binOp .eql 35 (.agg #[.pointer (some z)]) (.agg #[.pointer (some z)])).run Ybaf.prog w = .ok (.bool true) w := by
  have h := eql33 z
  go_simp

set_option maxHeartbeats 1000000 in
theorem as4_any (x : Int) (h0 : 0 ≤ x) (h1 : x < 18446744073709551616) (z : Addr) (w : World) (hz : w.cell? ⟨1, 0, none⟩ = some (.pointer (some z))) :
    Calls Ybaf.prog 15 #[.agg #[.int .u64 0, .int .u64 x, .pointer (some z)]] w fun r w' => r = .returned (.agg #[.int .u8 (x % 4294967296 / 16777216), .int .u8 (x % 4294967296 / 65536 % 256), .int .u8 (x % 4294967296 / 256 % 256), .int .u8 (x % 256)]) ∧ Kept [] w w' := by
  have hz2 := old_alloc2 hz
  have he := eql35 z
  go_enter Ybaf.func15, Ybaf.ntmps15
  go_wp2
  have hw1 : IntKind.u32.wrap x = x % 4294967296 := by rw [IntKind.wrap_u32']
  refine wp_region_noPanic (wp_region_last (fun w' => w'.cell? ⟨w.heap.size, 1, none⟩ = some (.int .u64 x)) [3] (by kernel_rfl) ?_)
  have hS : ((w.alloc (Obj.cells #[.int .u64 0, .int .u64 x, .pointer (some z)] 37)).alloc (Obj.cells #[.int .u8 0, .int .u8 0, .int .u8 0, .int .u8 0] 23)).cell? ⟨w.heap.size, 1, none⟩ = some (.int .u64 x) := by go_simp
  clear hz2 he
  refine wpAnyL_free (i := 0) (v := ?_) rfl (by kernel_rfl) (by kernel_rfl) (by kernel_rfl) (fun _ _ _ h => h) (by rfl) ?_ ?_
  rotate_left
  · intro w'; go_simp; try with_reducible rfl
  try simp only [Act.put, List.setIfInBounds_toArray, List.set_cons_zero, List.set_cons_succ]
  refine wpAnyL_free (i := 1) (v := ?_) rfl (by kernel_rfl) (by kernel_rfl) (by kernel_rfl) (fun _ _ _ h => h) (by rfl) ?_ ?_
  rotate_left
  · intro w'; go_simp; try with_reducible rfl
  try simp only [Act.put, List.setIfInBounds_toArray, List.set_cons_zero, List.set_cons_succ]
  refine wpAnyL_free (i := 2) (v := ?_) rfl (by kernel_rfl) (by kernel_rfl) (by kernel_rfl) (fun _ _ _ h => h) (by rfl) ?_ ?_
  rotate_left
  · intro w'; go_simp; try with_reducible rfl
  try simp only [Act.put, List.setIfInBounds_toArray, List.set_cons_zero, List.set_cons_succ]
  refine wpAnyL_take (i := 3) (v := ?_) rfl (by kernel_rfl) (by kernel_rfl) (by kernel_rfl) (by kernel_rfl) (fun _ _ _ h => h) (by rfl) ?_ hS ?_
  rotate_left
  · intro w' hS'; go_simp; try with_reducible rfl
  try simp only [Act.put, List.setIfInBounds_toArray, List.set_cons_zero, List.set_cons_succ]
  refine wpAnyL_free (i := 4) (v := ?_) rfl (by kernel_rfl) (by kernel_rfl) (by kernel_rfl) (fun _ _ _ h => h) (by rfl) ?_ ?_
  rotate_left
  · intro w'; go_simp; try with_reducible rfl
  try simp only [Act.put, List.setIfInBounds_toArray, List.set_cons_zero, List.set_cons_succ]
  refine wpAnyL_one (i := 5) (by kernel_rfl) rfl (by rfl) (fun K hK => ?_)
  go_simp
  refine (put32_any (w.heap.size + 1) 0 4 (by omega) (x % 4294967296) (by omega) (by omega) (.int .u8 0) (.int .u8 0) (.int .u8 0) (.int .u8 0) _ (by go_simp) (by go_simp) (by go_simp) (by go_simp) (by go_simp) (by go_simp) (by go_simp) (by go_simp)).mono ?_
  rintro _ _ ⟨rfl, rfl⟩
  refine hK.out _ _ (fun _ hS => ?_) ?_
  · go_simp
  clear hK K
  refine wpAnyL_done (by kernel_rfl) ?_ _
  refine NoPanic.normal ?_
  go_wp2
  refine bodyPost_ret (v := .agg #[.int .u8 (x % 4294967296 / 16777216), .int .u8 (x % 4294967296 / 65536 % 256), .int .u8 (x % 4294967296 / 256 % 256), .int .u8 (x % 256)]) (by simp [results, Ybaf.results15, go_sem]) rfl ⟨rfl, ?_⟩
  exact ((Kept.alloc _ _ _).trans (Kept.alloc _ _ _)).trans (Kept.drew _ _)

/-- append(b, xs...) at the operation. -/
theorem wp_bytes {P : Program} {w : World} {o : Oper} {a : Act} {K : Act → World → Prop} {Q : Exit → Act → World → Prop} (sl x : Operand) (t : TypeId)
    (ho : o.op = .call { callee := .builtin .append, args := #[sl, x], argTypes := #[t, t] })
    (base : Nat) (i : TypeInfo) (ht : P.underlying t = some (.slice 5)) (hi : P.info? 5 = some i) (hz : i.zero = some (.int .u8 0))
    (hsize : i.size = 1) (hby : i.bytes = 1)
    (v : Value) (n : Nat) (xs : List Int) (hs : a.eval sl = v) (hn : n = xs.length) (hown : w.ownsRow base 5 1 v n (bs xs)) (ad : Addr) (m c : Nat) (news : List Int) (hx : a.eval x = .slice (some ad) m c) (hm : m = news.length) (hm0 : 0 < m)
    (hnews : ∀ j u, (bs news)[j]? = some u → w.cell? (ad.add j) = some u) (hbytes : n + m ≤ 1000000) (hbase : base ≤ w.heap.size)
    (h : ∀ v' w', Appended base v xs news w v' w' → K (a.put o.dst v') w') : o.wp P a w K Q := by
  subst hn
  subst hm
  refine wp_append_lies w sl x t ho base 5 i (.int .u8 0) 1 1 ht hi hz hsize hby rfl (by decide) v _ _ hs hown ad _ c (bs news) hx (by simp [bs]) hnews (by intro u hu; simp [bs] at hu; obtain ⟨_, _, rfl⟩ := hu; rfl) hm0 (by unfold maxLen; omega) (by omega) hbase w.heap.size rfl ?_
  intro g cap w' h2 h3 h4 h5
  refine h _ w' ⟨by simpa [bs] using h2, Kept.grown h3 (fun k hk => by simp [hk]), ?_, by simp [Value.ownBlock]⟩
  rcases h4 with h4 | h4
  · exact .inl h4.symm
  · exact .inr fun g' hg' => by simp [Value.ownBlock] at hg'; omega

theorem owns_lt {w : World} {base : Nat} {t : TypeId} {size : Nat} {v : Value} {n : Nat} {xs : List Value} (h : w.ownsRow base t size v n xs) {g : Nat} (hg : g ∈ v.ownBlock.toList) : base ≤ g ∧ g < w.heap.size := h.lt g (by simpa using hg)

set_option maxHeartbeats 1000000 in
theorem appendAddr_any (base : Nat) (v : Value) (xs : List Int) (x p : Int) (h0 : 0 ≤ x) (h1 : x < 18446744073709551616) (hp0 : 0 ≤ p) (hp1 : p < 65536) (z : Addr) (w : World) (hown : w.ownsRow base 5 1 v xs.length (bs xs)) (hb : base ≤ w.heap.size) (hl : xs.length ≤ 800000) (hz : w.cell? ⟨1, 0, none⟩ = some (.pointer (some z))) (h1b : 1 < base) :
    Calls Ybaf.prog 11 #[v, .agg #[.int .u64 0, .int .u64 x, .pointer (some z), .int .u16 p]] w fun r w' => ∃ v', r = .returned v' ∧ Appended base v xs (be (x % 4294967296) 4 ++ be p 2) w v' w' := by
  obtain ⟨i0, hi, hz0, hz1, hz2⟩ := info_parts Ybaf.info5
  go_enter Ybaf.func11, Ybaf.ntmps11
  go_wp2_with fail
  refine (addr_any x z p _).mono ?_
  rintro _ w1 ⟨rfl, K1⟩
  go_wp2_with fail
  have hz' := K1.cell (old_alloc hz (Obj.cells #[.int .u64 0, .int .u64 x, .pointer (some z), .int .u16 p] 39)) (by simp)
  refine (as4_any x h0 h1 z _ hz').mono ?_
  rintro _ w2 ⟨rfl, K2⟩
  have hbx := K2.at (K1.at (alloc_at w (Obj.cells #[.int .u64 0, .int .u64 x, .pointer (some z), .int .u16 p] 39)) (by simp)) (by simp)
  have K02 : Kept [] w w2 := ((Kept.alloc _ _ _).trans K1).trans K2
  have z2 := K02.size
  clear K1 K2 hz'
  go_wp2_with fail
  have hip := alloc_at w2 (Obj.cells #[.int .u8 (x % 4294967296 / 16777216), .int .u8 (x % 4294967296 / 65536 % 256), .int .u8 (x % 4294967296 / 256 % 256), .int .u8 (x % 256)] 23)
  have K3 : Kept [] w2 (w2.alloc (Obj.cells #[.int .u8 (x % 4294967296 / 16777216), .int .u8 (x % 4294967296 / 65536 % 256), .int .u8 (x % 4294967296 / 256 % 256), .int .u8 (x % 256)] 23)) := Kept.alloc _ _ _
  generalize (w2.alloc (Obj.cells #[.int .u8 (x % 4294967296 / 16777216), .int .u8 (x % 4294967296 / 65536 % 256), .int .u8 (x % 4294967296 / 256 % 256), .int .u8 (x % 256)] 23)) = W at *
  have hbx3 := K3.at hbx (by simp)
  have s0 : W.cell? ⟨w.heap.size, 0, none⟩ = some (.int .u64 0) := cell_at hbx3 0 rfl
  have s1 : W.cell? ⟨w.heap.size, 1, none⟩ = some (.int .u64 x) := cell_at hbx3 1 rfl
  have s2 : W.cell? ⟨w.heap.size, 2, none⟩ = some (.pointer (some z)) := cell_at hbx3 2 rfl
  have s3 : W.cell? ⟨w.heap.size, 3, none⟩ = some (.int .u16 p) := cell_at hbx3 3 rfl
  refine wp_region_noPanic (wp_region_last (fun w' => w'.cell? ⟨w.heap.size, 0, none⟩ = some (.int .u64 0) ∧ w'.cell? ⟨w.heap.size, 1, none⟩ = some (.int .u64 x) ∧ w'.cell? ⟨w.heap.size, 2, none⟩ = some (.pointer (some z)) ∧ w'.cell? ⟨w.heap.size, 3, none⟩ = some (.int .u16 p)) [4] (by kernel_rfl) ?_)
  have hS := And.intro s0 (And.intro s1 (And.intro s2 s3))
  clear s0 s1 s2 s3
  refine wpAnyL_free (i := 0) (v := ?_) rfl (by kernel_rfl) (by kernel_rfl) (by kernel_rfl) (fun _ _ _ h => h) (by rfl) ?_ ?_
  rotate_left
  · intro w'; go_simp; try with_reducible rfl
  try simp only [Act.put, List.setIfInBounds_toArray, List.set_cons_zero, List.set_cons_succ]
  refine wpAnyL_free (i := 1) (v := ?_) rfl (by kernel_rfl) (by kernel_rfl) (by kernel_rfl) (fun _ _ _ h => h) (by rfl) ?_ ?_
  rotate_left
  · intro w'; go_simp; try with_reducible rfl
  try simp only [Act.put, List.setIfInBounds_toArray, List.set_cons_zero, List.set_cons_succ]
  refine wpAnyL_free (i := 2) (v := ?_) rfl (by kernel_rfl) (by kernel_rfl) (by kernel_rfl) (fun _ _ _ h => h) (by rfl) ?_ ?_
  rotate_left
  · intro w'; go_simp; try with_reducible rfl
  try simp only [Act.put, List.setIfInBounds_toArray, List.set_cons_zero, List.set_cons_succ]
  refine wpAnyL_take (i := 4) (v := ?_) rfl (by kernel_rfl) (by kernel_rfl) (by kernel_rfl) (by kernel_rfl) (fun _ _ _ h => h) (by rfl) ?_ hS ?_
  rotate_left
  · intro w' hS'; go_simp; try with_reducible rfl
  try simp only [Act.put, List.setIfInBounds_toArray, List.set_cons_zero, List.set_cons_succ]
  refine wpAnyL_one (i := 3) (by kernel_rfl) rfl (by rfl) (fun K hK => ?_)
  have K0W : Kept [] w W.drew := (K02.trans K3).trans (Kept.drew _ _)
  have hoW := K0W.owns hown (by simp)
  have zW := K0W.size
  have e4 : bs (be (x % 4294967296) 4) = (#[.int .u8 (x % 4294967296 / 16777216), .int .u8 (x % 4294967296 / 65536 % 256), .int .u8 (x % 4294967296 / 256 % 256), .int .u8 (x % 256)] : Array Value).toList := by simp [bs, be]; omega
  refine wp_bytes (.tmp 10) (.tmp 11) 49 (by rfl) base i0 Ybaf.underlying49 hi hz0 hz1 hz2 v _ xs (by rfl) rfl hoW ⟨w2.heap.size, 0, none⟩ 4 4 (be (x % 4294967296) 4) (by rfl) rfl (by omega) (by rw [e4]; exact World.news_of_block hip) (by omega) (by omega) ?_
  intro v1 w3 hA
  have nb : w.heap.size ∉ v.ownBlock.toList := fun h => by have := owns_lt hown h; omega
  refine hK.out _ _ (fun _ hS => ?_) ?_
  · exact ⟨hA.2.1.cell hS.1 nb, hA.2.1.cell hS.2.1 nb, hA.2.1.cell hS.2.2.1 nb, hA.2.1.cell hS.2.2.2 nb⟩
  clear hK K e4
  try simp only [Act.put, List.setIfInBounds_toArray, List.set_cons_zero, List.set_cons_succ]
  refine wpAnyL_one (i := 5) (by kernel_rfl) rfl (by rfl) (fun K hK => ?_)
  go_simp
  refine (port_any x z p _).mono ?_
  rintro _ w4 ⟨rfl, K4⟩
  refine hK.out _ _ (fun _ hS => ?_) ?_
  · exact ⟨K4.cell hS.1 (by simp), K4.cell hS.2.1 (by simp), K4.cell hS.2.2.1 (by simp), K4.cell hS.2.2.2 (by simp)⟩
  clear hK K
  have ho4 := K4.owns hA.owns (by simp)
  have hl4 : (xs ++ be (x % 4294967296) 4).length ≤ 800004 := by simp [be_length]; omega
  have z3 := hA.2.1.size
  have z4 := K4.size
  try simp only [Act.put, List.setIfInBounds_toArray, List.set_cons_zero, List.set_cons_succ]
  refine wpAnyL_one (i := 6) (by kernel_rfl) rfl (by rfl) (fun K hK => ?_)
  go_simp
  refine (app16 base v1 _ p hp0 hp1 _ ho4 (by omega) (by omega)).mono ?_
  rintro _ w5 ⟨v2, rfl, hB⟩
  have nb1 : w.heap.size ∉ v1.ownBlock.toList := fun h => by
    rcases hA.2.2.1 with h' | h'
    · rw [h'] at h; exact nb h
    · have h5 := h' _ (by simpa using h)
      have h6 : w.heap.size < W.drew.heap.size := World.block_lt_of_cell? W.drew ⟨w.heap.size, 0, none⟩ hS.1
      omega
  refine hK.out _ _ (fun _ hS => ?_) ?_
  · exact ⟨hB.2.1.cell hS.1 nb1, hB.2.1.cell hS.2.1 nb1, hB.2.1.cell hS.2.2.1 nb1, hB.2.1.cell hS.2.2.2 nb1⟩
  clear hK K
  have hC := (hA.of_kept K0W).trans (hB.of_kept K4)
  try simp only [Act.put, List.setIfInBounds_toArray, List.set_cons_zero, List.set_cons_succ]
  refine wpAnyL_free (i := 7) (v := ?_) rfl (by kernel_rfl) (by kernel_rfl) (by kernel_rfl) (fun _ _ _ h => h) (by rfl) ?_ ?_
  rotate_left
  · intro w'; go_simp; try with_reducible rfl
  try simp only [Act.put, List.setIfInBounds_toArray, List.set_cons_zero, List.set_cons_succ]
  refine wpAnyL_done (by kernel_rfl) ?_ _
  refine NoPanic.normal ?_
  clear hA hB ho4 hS hoW
  go_wp2
  go_ret
  exact ⟨v2, rfl, hC⟩

/-- The four states' names. -/
def stName : Nat → ByteArray
  | 0 => ⟨#[97, 108, 105, 118, 101]⟩
  | 1 => ⟨#[115, 117, 115, 112, 101, 99, 116]⟩
  | 2 => ⟨#[100, 101, 97, 100]⟩
  | _ => ⟨#[108, 101, 102, 116]⟩

/-- The variable 'states' as the program's text lays it. -/
structure States (gs os cs : Nat) (w : World) : Prop where
  var : w.cell? ⟨0, 0, none⟩ = some (.slice (some ⟨gs, os, none⟩) 4 cs)
  row : ∀ i, i < 4 → w.cell? ⟨gs, os + i, none⟩ = some (.string (stName i))

set_option maxHeartbeats 1000000 in
theorem stateCode_any (gs os cs i : Nat) (hi : i < 4) (w : World) (hs : States gs os cs w) :
    Calls Ybaf.prog 12 #[.string (stName i)] w fun r w' => r = .returned (.int .u8 i) ∧ w' = w := by
  have v := hs.var
  have r0 := hs.row 0 (by omega)
  have r1 := hs.row 1 (by omega)
  have r2 := hs.row 2 (by omega)
  have r3 := hs.row 3 (by omega)
  clear hs
  simp only [stName, Nat.add_zero] at r0 r1 r2 r3
  rcases (show i = 0 ∨ i = 1 ∨ i = 2 ∨ i = 3 by omega) with rfl | rfl | rfl | rfl
  · simp only [stName]
    go_enter Ybaf.func12, Ybaf.ntmps12
    go_wp2
    refine wp_loop_rounds 1 ?_
    rw [rounds_succ]
    go_wp2
    go_ret
    exact ⟨rfl, rfl⟩
  · simp only [stName]
    go_enter Ybaf.func12, Ybaf.ntmps12
    go_wp2
    refine wp_loop_rounds 2 ?_
    rw [rounds_succ]
    go_wp2
    rw [rounds_succ]
    go_wp2
    go_ret
    exact ⟨rfl, rfl⟩
  · simp only [stName]
    go_enter Ybaf.func12, Ybaf.ntmps12
    go_wp2
    refine wp_loop_rounds 3 ?_
    rw [rounds_succ]
    go_wp2
    rw [rounds_succ]
    go_wp2
    rw [rounds_succ]
    go_wp2
    go_ret
    exact ⟨rfl, rfl⟩
  · simp only [stName]
    go_enter Ybaf.func12, Ybaf.ntmps12
    go_wp2
    refine wp_loop_rounds 4 ?_
    rw [rounds_succ]
    go_wp2
    rw [rounds_succ]
    go_wp2
    rw [rounds_succ]
    go_wp2
    rw [rounds_succ]
    go_wp2
    go_ret
    exact ⟨rfl, rfl⟩
end Go.Proofs.YbulkcqnmFmt
