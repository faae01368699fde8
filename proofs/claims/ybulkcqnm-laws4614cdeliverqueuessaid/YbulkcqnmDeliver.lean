import Derived.Test.YbulkcqnmComm
import Derived.Test.YbulkcqnmBase
import Derived.Test.YbulkcqnmLocks
namespace Go.Proofs.Ybulkcqnm
set_option linter.unusedVariables false
set_option linter.unusedSimpArgs false
open Go.RowKit Go.Conc Go.MuLone

theorem Kept.setChan {S : List Nat} (w : World) (c : Nat) {cap : Nat} {buf : Array Value} {cl : Bool} {s r : Nat} {tm : Bool} (h : c ∈ S) : Kept S w (w.setChan c cap buf cl s r tm) :=
  ⟨rfl, rfl, rfl, by simp [World.setChan], fun k _ hn => by simp only [World.setChan]; rw [Array.getElem?_setIfInBounds_ne (show c ≠ k from fun e => hn (e ▸ h))]⟩

def subCells (ch dn : Nat) (mu : Int) (b : Int) : Array Value := #[.pointer none, .string ⟨#[]⟩, .chan (some ch), .chan (some dn), .int .i32 mu, .int .u32 0, .int .i64 b, .bool false]

set_option maxHeartbeats 1000000 in
theorem deliver_any (sb ch dn cap s r : Nat) (buf : Array Value) (b : Int) (from_ topic : ByteArray) (da : Option Addr) (dl dc : Nat) (w : World)
    (hs : w.heap[sb]? = some (.cells (subCells ch dn 0 b) 38)) (hc : w.heap[ch]? = some (.chan cap buf false s r false)) (hd : w.heap[dn]? = some (.chan 0 #[] false 0 0 false)) (hroom : buf.size < cap) (h0 : 0 ≤ b) (h1 : b < 8) (hne : ch ≠ dn) :
    Calls Yba.prog 5 #[.pointer (some ⟨sb, 0, none⟩), .agg #[.string from_, .string topic, .slice da dl dc]] w fun e w' => e = .returned (.tuple #[]) ∧
      w'.heap[sb]? = some (.cells (subCells ch dn 0 b) 38) ∧ w'.heap[ch]? = some (.chan cap (buf.push (.agg #[.string from_, .string topic, .slice da dl dc])) false (s + 1) r false) ∧ Kept [ch, sb] w w' := by
  refine calls_of_wpN Yba.func5 rfl ?_
  simp only [Yba.ntmps5, List.size_toArray, List.length_cons, List.length_nil, Nat.reduceAdd, Nat.reduceSub, Array.replicate_succ, Array.replicate_zero, List.push_toArray, List.append_toArray, List.nil_append, List.cons_append]
  refine wpN_seq_k (fun K hK => ?_)
  go_wp2_with fail
  have K0 : Kept [] w (w.alloc (.cells #[.string from_, .string topic, .slice da dl dc] 26)) := Kept.alloc _ _ _
  have hm0 := alloc_at w (.cells #[.string from_, .string topic, .slice da dl dc] 26)
  have hs0 := K0.at hs (by simp)
  have hc0 := K0.at hc (by simp)
  have hd0 := K0.at hd (by simp)
  have lts := lt_of_at hs
  have ltc := lt_of_at hc
  have ltd := lt_of_at hd
  have nsc : sb ≠ ch := fun h => by rw [h, hc] at hs; cases hs
  have nsd : sb ≠ dn := fun h => by rw [h, hd] at hs; cases hs
  generalize hW0 : (w.alloc (.cells #[.string from_, .string topic, .slice da dl dc] 26)) = W0 at *
  clear hW0
  refine wpN_seq_k (fun K hK => ?_)
  go_wp2_with fail
  refine (lock_free Yba.muLib ⟨sb, 4, none⟩ W0 (cell_at hs0 4 rfl) (frozen_at hs0 4)).mono ?_
  rintro _ w1 ⟨rfl, h1w⟩
  have K1 : Kept [sb] W0 w1 := by subst h1w; exact Kept.setCell _ _ _ (by simp)
  have hs1 : w1.heap[sb]? = some (.cells (subCells ch dn 1 b) 38) := by subst h1w; exact set_at hs0 4 _
  clear h1w
  have c7 : w1.cell? ⟨sb, 7, none⟩ = some (.bool false) := cell_at hs1 7 rfl
  have c6 : w1.cell? ⟨sb, 6, none⟩ = some (.int .i64 b) := cell_at hs1 6 rfl
  have f6 : w1.frozen? ⟨sb, 6, none⟩ = false := frozen_at hs1 6
  go_wp2_with fail
  refine wpN_seq_k (fun K hK => ?_)
  go_wp2_with fail
  refine wpN_seq_k (fun K hK => ?_)
  go_wp2_with fail
  have K2 : Kept [sb] w1 (w1.setCell ⟨sb, 6, none⟩ (.int .i64 (b + 1))) := Kept.setCell _ _ _ (by simp)
  have hs2 : (w1.setCell ⟨sb, 6, none⟩ (.int .i64 (b + 1))).heap[sb]? = some (.cells (subCells ch dn 1 (b + 1)) 38) := set_at hs1 6 _
  generalize hW2 : (w1.setCell ⟨sb, 6, none⟩ (.int .i64 (b + 1))) = w2 at *
  clear hW2 c7 c6 f6
  refine wpN_seq_k (fun K hK => ?_)
  go_wp2_with fail
  refine (unlock_held Yba.muLib ⟨sb, 4, none⟩ w2 (cell_at hs2 4 rfl) (frozen_at hs2 4)).mono ?_
  rintro _ w3 ⟨rfl, h3w⟩
  have K3 : Kept [sb] w2 w3 := by subst h3w; exact Kept.setCell _ _ _ (by simp)
  have hs3 : w3.heap[sb]? = some (.cells (subCells ch dn 0 (b + 1)) 38) := by subst h3w; exact set_at hs2 4 _
  clear h3w
  have K03 : Kept [sb] W0 w3 := (K1.trans K2).trans K3
  have hm3 := K03.at hm0 (by simp; omega)
  have hc3 := K03.at hc0 (by simpa using nsc.symm)
  have hd3 := K03.at hd0 (by simpa using nsd.symm)
  have g2 : w3.cell? ⟨sb, 2, none⟩ = some (.chan (some ch)) := cell_at hs3 2 rfl
  have g3 : w3.cell? ⟨sb, 3, none⟩ = some (.chan (some dn)) := cell_at hs3 3 rfl
  have e0 : w3.cell? ⟨w.heap.size, 0, none⟩ = some (.string from_) := cell_at hm3 0 rfl
  have e1 : w3.cell? ⟨w.heap.size, 1, none⟩ = some (.string topic) := cell_at hm3 1 rfl
  have e2 : w3.cell? ⟨w.heap.size, 2, none⟩ = some (.slice da dl dc) := cell_at hm3 2 rfl
  go_wp2_with fail
  refine wpN_seq (wpN_seq (wpN_seq_k (fun K hK => ?_)))
  go_wp2_with fail
  refine wpN_of_wp ?_
  go_wp2_with fail
  show wpN _ _ _ _ _
  refine wpN_seq (wpN_region ?_)
  show Rest _ _ _ [0, 1, 2, 3] _ _
  refine Rest.selSend (n := 0) (c := ch) (cap := cap) (buf := buf) (s := s) (r := r) (tm := false) (blocking := true) (cases := #[scase ch (.agg #[.string from_, .string topic, .slice da dl dc]) (.agg #[.string ⟨#[]⟩, .string ⟨#[]⟩, .slice none 0 0]), rcase dn (.agg #[])]) (w₁ := w3) rfl rfl ?run rfl ?no hc3 hroom ?_
  case run => simp [go_sem, execOp, scase, rcase, Act.eval]
  case no =>
    intro m c' hm hc'
    rcases m with _ | _ | m
    · exact absurd rfl hm
    · simp only [List.getElem?_toArray, List.getElem?_cons_succ, List.getElem?_cons_zero, Option.some.injEq] at hc'
      subst hc'
      exact noWay_recv hd3
    · simp at hc'
  rw [show commResult #[scase ch (.agg #[.string from_, .string topic, .slice da dl dc]) (.agg #[.string ⟨#[]⟩, .string ⟨#[]⟩, .slice none 0 0]), rcase dn (.agg #[])] .select ((0 : Nat) : Int) undef false = .tuple #[goInt 0, .bool false, .agg #[]] by simp [commResult, rcase, scase, List.zipIdx_cons]]
  try simp only [Act.put, List.setIfInBounds_toArray, List.set_cons_zero, List.set_cons_succ]
  refine Rest.op rfl rfl (fun K hK => ?_)
  go_simp
  refine hK _ _ ?_
  clear hK K
  try simp only [Act.put, List.setIfInBounds_toArray, List.set_cons_zero, List.set_cons_succ]
  refine Rest.op rfl rfl (fun K hK => ?_)
  go_simp
  refine hK _ _ ?_
  clear hK K
  try simp only [Act.put, List.setIfInBounds_toArray, List.set_cons_zero, List.set_cons_succ]
  refine Rest.op rfl rfl (fun K hK => ?_)
  go_simp
  refine hK _ _ ?_
  clear hK K
  try simp only [Act.put, List.setIfInBounds_toArray, List.set_cons_zero, List.set_cons_succ]
  refine Rest.nil ?_
  have K4 : Kept [ch] w3 (w3.setChan ch cap (buf.push (.agg #[.string from_, .string topic, .slice da dl dc])) false (s + 1) r false) := Kept.setChan _ _ (by simp)
  have hc4 := heap_setChan w3 ch cap (buf.push (.agg #[.string from_, .string topic, .slice da dl dc])) false (s + 1) r false (by have := K03.size; have := K0.size; omega)
  generalize hW4 : (w3.setChan ch cap (buf.push (.agg #[.string from_, .string topic, .slice da dl dc])) false (s + 1) r false) = w4 at *
  clear hW4 g2 g3 e0 e1 e2
  have hs4 := K4.at hs3 (by simpa using nsc)
  show wpN _ _ _ _ _
  refine wpN_of_wp ?_
  go_wp2_with fail
  show wpN _ _ _ _ _
  refine wpN_of_wp ?_
  go_wp2_with fail
  refine (lock_free Yba.muLib ⟨sb, 4, none⟩ w4 (cell_at hs4 4 rfl) (frozen_at hs4 4)).mono ?_
  rintro _ w5 ⟨rfl, h5w⟩
  have K5 : Kept [sb] w4 w5 := by subst h5w; exact Kept.setCell _ _ _ (by simp)
  have hs5 : w5.heap[sb]? = some (.cells (subCells ch dn 1 (b + 1)) 38) := by subst h5w; exact set_at hs4 4 _
  clear h5w
  have c6 : w5.cell? ⟨sb, 6, none⟩ = some (.int .i64 (b + 1)) := cell_at hs5 6 rfl
  have f6 : w5.frozen? ⟨sb, 6, none⟩ = false := frozen_at hs5 6
  have c7 : w5.cell? ⟨sb, 7, none⟩ = some (.bool false) := cell_at hs5 7 rfl
  go_wp2_with fail
  have K6 : Kept [sb] w5 (w5.setCell ⟨sb, 6, none⟩ (.int .i64 b)) := Kept.setCell _ _ _ (by simp)
  have hs6 : (w5.setCell ⟨sb, 6, none⟩ (.int .i64 b)).heap[sb]? = some (.cells (subCells ch dn 1 b) 38) := set_at hs5 6 _
  generalize hW6 : (w5.setCell ⟨sb, 6, none⟩ (.int .i64 b)) = w6 at *
  clear hW6 c7 c6 f6
  refine (unlock_held Yba.muLib ⟨sb, 4, none⟩ w6 (cell_at hs6 4 rfl) (frozen_at hs6 4)).mono ?_
  rintro _ w7 ⟨rfl, h7w⟩
  have K7 : Kept [sb] w6 w7 := by subst h7w; exact Kept.setCell _ _ _ (by simp)
  have hs7 : w7.heap[sb]? = some (.cells (subCells ch dn 0 b) 38) := by subst h7w; exact set_at hs6 4 _
  clear h7w
  go_wp2_with fail
  go_end0
  have K47 : Kept [sb] w4 w7 := (K5.trans K6).trans K7
  exact ⟨rfl, hs7, K47.at hc4 (by simpa using nsc.symm), (K0.mono (by simp)).trans ((K03.mono (by simp)).trans ((K4.mono (by simp)).trans (K47.mono (by simp))))⟩
end Go.Proofs.Ybulkcqnm
