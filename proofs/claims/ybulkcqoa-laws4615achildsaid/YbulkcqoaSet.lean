import Derived.Test.YbulkcqoaProg
import Derived.Test.YbulkcqoaBase
import Derived.Maps.Own
import Derived.Maps.OwnSet
import Derived.Maps.Views
import Derived.StringKeys
namespace Go.Proofs.Ybulkcqoa
set_option linter.unusedVariables false
set_option linter.unusedSimpArgs false
open Go.RowKit

/-- How an element of the map reads: a pointer to the head of a block, as the block's number. -/
def ptrElem : Value → Option (DataW Nat × List MemPlace)
  | .pointer none => some (.nil, [])
  | .pointer (some ⟨b, 0, none⟩) => some (.held b, [])
  | _ => none
theorem ptrElem_inv {v : Value} {b : Nat} {ps : List MemPlace} (h : ptrElem v = some (.held b, ps)) : v = .pointer (some ⟨b, 0, none⟩) := by
  unfold ptrElem at h
  split at h <;> simp at h
  rw [h.1]
theorem ptrElem_nil {v : Value} {ps : List MemPlace} (h : ptrElem v = some (.nil, ps)) : v = .pointer none := by
  unfold ptrElem at h
  split at h <;> simp at h
  rfl

theorem Yba.info9 : (Yba.prog.info? 9).map (fun i => (i.zero, i.size, i.bytes)) = some (some (.string ⟨#[]⟩), 1, 16) := by kernel_rfl
theorem keyed9 : Maps.Keyed Yba.prog 9 := Maps.string_keyed Yba.underlying9

set_option maxHeartbeats 400000 in
theorem newTable_any (kind line : Int) (w : World) :
    Calls Yba.prog 4 #[.int .i64 kind, .int .i64 line] w fun e w' => e = .returned (.pointer (some ⟨w.heap.size + 1, 0, none⟩)) ∧ w' = (w.alloc (.map #[] 0)).alloc (.cells #[.int .i64 line, .slice none 0 0, .map (some w.heap.size), .int .i64 kind] 34) := by
  have hmm := @run_makeMap Yba.prog
  go_enter Yba.func4, Yba.ntmps4
  go_wp2
  go_ret
  exact ⟨by simp, rfl⟩

set_option maxHeartbeats 1000000 in
theorem set_any (tb mb base n : Nat) (tline kind : Int) (v : Value) (L : List Value) (key : ByteArray) (eb : Nat) (D : DataW Nat) (w : World)
    (ht : w.heap[tb]? = some (.cells #[.int .i64 tline, v, .map (some mb), .int .i64 kind] 34)) (hv : w.ownsRow base 9 1 v n L) (hm : w.ownsMap Yba.prog 9 ptrElem mb n D)
    (htb : tb < base) (hmb : mb < base) (hbs : base ≤ w.heap.size) (hn : n ≤ 2000) (hk : key.size ≤ maxLen) :
    Calls Yba.prog 5 #[.pointer (some ⟨tb, 0, none⟩), .string key, .pointer (some ⟨eb, 0, none⟩)] w fun e w' => e = .returned (.tuple #[]) ∧ ∃ v', w'.heap[tb]? = some (.cells #[.int .i64 tline, v', .map (some mb), .int .i64 kind] 34) ∧
      w'.ownsRow base 9 1 v' (n + 1) (L ++ [.string key]) ∧ w'.ownsMap Yba.prog 9 ptrElem mb (n + 1) (D.put (.string key.data.toList) (.held eb)) ∧ Kept (tb :: mb :: v.ownBlock.toList) w w' ∧ (v'.ownBlock = v.ownBlock ∨ ∀ g, v'.ownBlock = some g → w.heap.size ≤ g) := by
  obtain ⟨i0, hi, hy0, hy1, hy2⟩ := info_parts Yba.info9
  have c1 : w.cell? ⟨tb, 1, none⟩ = some v := cell_at ht 1 rfl
  go_enter Yba.func5, Yba.ntmps5
  go_wp2_with (at_builtin; refine wpList_append_lies _ rfl (.tmp 10) (.tmp 12) 22 (by rfl) base 9 i0 (.string ⟨#[]⟩) 1 16 Yba.underlying22 hi hy0 hy1 hy2 rfl (by decide) v n L (by rfl) (hv.alloc _) ⟨w.heap.size, 0, none⟩ 1 1 [.string key] (by rfl) rfl ?news (by intro u hu; simp at hu; subst hu; rfl) (by omega) (by unfold maxLen; omega) (by omega) (by simp; omega) (w.heap.size + 1) (by simp) ?_)
  case news => first | exact World.news_of_block (cs := #[.string key]) (alloc_at _ _) | (simp; done)
  intro g cap w1 hown hgrow hat hlt
  have K1 : Kept v.ownBlock.toList w w1 := Kept.grownAlloc hgrow
  have own : ∀ x, x ∈ v.ownBlock.toList → base ≤ x := fun x hx => (hv.lt x (by simpa using hx)).1
  have nt : tb ∉ v.ownBlock.toList := fun h => by have := own _ h; omega
  have nm : mb ∉ v.ownBlock.toList := fun h => by have := own _ h; omega
  have ht1 := K1.at ht nt
  have d1 : w1.cell? ⟨tb, 1, none⟩ = some v := cell_at ht1 1 rfl
  have f1 : w1.frozen? ⟨tb, 1, none⟩ = false := frozen_at ht1 1
  have hgb : base ≤ g := by
    rcases hat with hat | hat
    · exact own g (by simpa using hat)
    · omega
  have hm1 : w1.ownsMap Yba.prog 9 ptrElem mb n D := by
    obtain ⟨es, clock, hb, r⟩ := hm
    exact ⟨es, clock, K1.at hb nm, r⟩
  have mt : mb ≠ tb := fun h => by
    obtain ⟨es, clock, hb, r⟩ := hm
    rw [h, ht] at hb; cases hb
  have K2 : Kept [tb] w1 (w1.setCell ⟨tb, 1, none⟩ (.slice (some ⟨g, 0, none⟩) (n + 1) cap)) := Kept.setCell _ _ _ (by simp)
  have ht2 : (w1.setCell ⟨tb, 1, none⟩ (.slice (some ⟨g, 0, none⟩) (n + 1) cap)).heap[tb]? = some (.cells #[.int .i64 tline, .slice (some ⟨g, 0, none⟩) (n + 1) cap, .map (some mb), .int .i64 kind] 34) := set_at ht1 1 _
  have hm2 : (w1.setCell ⟨tb, 1, none⟩ (.slice (some ⟨g, 0, none⟩) (n + 1) cap)).ownsMap Yba.prog 9 ptrElem mb n D := hm1.setCell mt _
  have hv2 := K2.owns hown (by simp [Value.ownBlock]; omega)
  have e2 : (w1.setCell ⟨tb, 1, none⟩ (.slice (some ⟨g, 0, none⟩) (n + 1) cap)).cell? ⟨tb, 2, none⟩ = some (.map (some mb)) := cell_at ht2 2 rfl
  have hkey := Go.WideMaps.keyOf_string_mk (P := Yba.prog) (k := 9) Yba.underlying9 hk
  go_wp2_with (at_mapUpdate; refine wpList_mapUpdate_own _ rfl _ _ _ 32 rfl 9 27 keyed9 Yba.underlying32 ptrElem mb n D rfl hm2 (by unfold maxLen; omega) _ _ (.string key.data.toList) rfl rfl hkey (.held eb) [] rfl ?_)
  intro w3 hm3 hgrow3
  have K3 : Kept [mb] (w1.setCell ⟨tb, 1, none⟩ (.slice (some ⟨g, 0, none⟩) (n + 1) cap)) w3 := Kept.grown hgrow3 (by simp)
  have ht3 := K3.at ht2 (by simpa using mt.symm)
  have hv3 := K3.owns hv2 (by simp [Value.ownBlock]; omega)
  go_wp2_with fail
  go_end0
  exact ⟨rfl, _, ht3, hv3, hm3, (K1.mono (fun x hx => List.mem_cons_of_mem _ (List.mem_cons_of_mem _ hx))).trans ((K2.mono (by simp)).trans (K3.mono (by simp))), hat.elim (fun h => .inl (by rw [h]; rfl)) (fun h => .inr fun g' hg' => by simp [Value.ownBlock] at hg'; omega)⟩

set_option maxHeartbeats 1000000 in
theorem child_any (tb mb base n : Nat) (tline kind ck line : Int) (v : Value) (L : List Value) (key : ByteArray) (D : DataW Nat) (w : World)
    (ht : w.heap[tb]? = some (.cells #[.int .i64 tline, v, .map (some mb), .int .i64 kind] 34)) (hv : w.ownsRow base 9 1 v n L) (hm : w.ownsMap Yba.prog 9 ptrElem mb n D)
    (htb : tb < base) (hmb : mb < base) (hbs : base ≤ w.heap.size) (hn : n ≤ 2000) (hk : key.size ≤ maxLen) :
    Calls Yba.prog 6 #[.pointer (some ⟨tb, 0, none⟩), .string key, .int .i64 ck, .int .i64 line] w fun e w' => e = .returned (.pointer (some ⟨w.heap.size + 1, 0, none⟩)) ∧ ∃ v', w'.heap[tb]? = some (.cells #[.int .i64 tline, v', .map (some mb), .int .i64 kind] 34) ∧
      w'.ownsRow base 9 1 v' (n + 1) (L ++ [.string key]) ∧ w'.ownsMap Yba.prog 9 ptrElem mb (n + 1) (D.put (.string key.data.toList) (.held (w.heap.size + 2))) ∧ Kept (tb :: mb :: v.ownBlock.toList) w w' ∧ (v'.ownBlock = v.ownBlock ∨ ∀ g, v'.ownBlock = some g → w.heap.size + 3 ≤ g) ∧
      w'.heap[w.heap.size]? = some (.map #[] 0) ∧ w'.heap[w.heap.size + 1]? = some (.cells #[.int .i64 line, .slice none 0 0, .map (some w.heap.size), .int .i64 ck] 34) ∧
      w'.heap[w.heap.size + 2]? = some (.cells #[.int .i64 line, .iface 23 (.pointer (some ⟨w.heap.size + 1, 0, none⟩)), .bool false] 29) := by
  go_enter Yba.func6, Yba.ntmps6
  go_wp2_with fail
  refine (newTable_any ck line w).mono ?_
  rintro _ w1 ⟨rfl, h1w⟩
  have K1 : Kept [] w w1 := by subst h1w; exact (Kept.alloc _ _ _).trans (Kept.alloc _ _ _)
  have hs1 : w1.heap.size = w.heap.size + 2 := by subst h1w; simp
  have hmp : w1.heap[w.heap.size]? = some (.map #[] 0) := by subst h1w; exact (Kept.alloc [] _ _).at (alloc_at _ _) (by simp)
  have htc : w1.heap[w.heap.size + 1]? = some (.cells #[.int .i64 line, .slice none 0 0, .map (some w.heap.size), .int .i64 ck] 34) := by
    subst h1w
    have := alloc_at (w.alloc (.map #[] 0)) (.cells #[.int .i64 line, .slice none 0 0, .map (some w.heap.size), .int .i64 ck] 34)
    simpa using this
  clear h1w
  go_wp2_with fail
  have K2 : Kept [] w1 (w1.alloc (.cells #[.int .i64 line, .iface 23 (.pointer (some ⟨w.heap.size + 1, 0, none⟩)), .bool false] 29)) := Kept.alloc _ _ _
  have hen := alloc_at w1 (.cells #[.int .i64 line, .iface 23 (.pointer (some ⟨w.heap.size + 1, 0, none⟩)), .bool false] 29)
  rw [hs1] at hen
  generalize (w1.alloc (.cells #[.int .i64 line, .iface 23 (.pointer (some ⟨w.heap.size + 1, 0, none⟩)), .bool false] 29)) = w2 at *
  have K02 : Kept [] w w2 := K1.trans K2
  have hm2 : w2.ownsMap Yba.prog 9 ptrElem mb n D := by
    obtain ⟨es, clock, hb, r⟩ := hm
    exact ⟨es, clock, K02.at hb (by simp), r⟩
  have lo : ∀ x ∈ tb :: mb :: v.ownBlock.toList, x < w.heap.size := by
    intro x hx
    rcases List.mem_cons.1 hx with rfl | hx
    · omega
    · rcases List.mem_cons.1 hx with rfl | hx
      · omega
      · exact (hv.lt x (by simpa using hx)).2
  refine (set_any tb mb base n tline kind v L key (w.heap.size + 2) D w2 (K02.at ht (by simp)) (K02.owns hv (by simp)) hm2 htb hmb (Nat.le_trans hbs K02.size) hn hk).mono ?_
  rintro _ w3 ⟨rfl, v', t3, r3, m3, K3, S3⟩
  have hs2 := lt_of_at hen
  have a1 := K3.at (K2.at hmp (by simp)) (fun h => by have := lo _ h; omega)
  have a2 := K3.at (K2.at htc (by simp)) (fun h => by have := lo _ h; omega)
  have a3 := K3.at hen (fun h => by have := lo _ h; omega)
  go_wp2_with fail
  go_ret
  exact ⟨rfl, v', t3, r3, m3, (K02.mono (by simp)).trans K3, S3.imp id (fun h g hg => by have := h g hg; omega), a1, a2, a3⟩

set_option maxHeartbeats 400000 in
theorem inline_any (cb : Nat) (line ck : Int) (x y : Value) (w : World) (h : w.heap[cb]? = some (.cells #[.int .i64 line, x, y, .int .i64 ck] 34)) :
    Calls Yba.prog 7 #[.pointer (some ⟨cb, 0, none⟩)] w fun e w' => e = .returned (.bool (decide (ck = 3))) ∧ w' = w := by
  have c3 : w.cell? ⟨cb, 3, none⟩ = some (.int .i64 ck) := cell_at h 3 rfl
  by_cases hk : ck = 3
  · subst hk
    go_enter Yba.func7, Yba.ntmps7
    go_wp2_with fail
    go_ret
    exact ⟨by simp, rfl⟩
  · go_enter Yba.func7, Yba.ntmps7
    go_wp2_with fail
    go_ret
    exact ⟨by simp [hk], rfl⟩
end Go.Proofs.Ybulkcqoa
