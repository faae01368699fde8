import Derived.Test.YbulkcqnmDeliver
namespace Go.Proofs.Ybulkcqnm
set_option linter.unusedVariables false
set_option linter.unusedSimpArgs false
open Go.RowKit Go.Conc Go.MuLone

set_option maxHeartbeats 400000 in
theorem open_any (ch cap s r : Nat) (w : World) (hc : w.heap[ch]? = some (.chan cap #[] false s r false)) :
    Calls Yba.prog 7 #[.chan (some ch)] w fun e w' => e = .returned (.bool true) ∧ w' = w := by
  refine calls_of_wpN Yba.func7 rfl ?_
  simp only [Yba.ntmps7, List.size_toArray, List.length_cons, List.length_nil, Nat.reduceAdd, Nat.reduceSub, Array.replicate_succ, Array.replicate_zero, List.push_toArray, List.append_toArray, List.nil_append, List.cons_append]
  refine wpN_seq_k (fun K hK => ?_)
  go_wp2_with fail
  refine wpN_seq (wpN_of_wp ?_)
  go_wp2_with fail
  show wpN _ _ _ _ _
  refine wpN_seq (wpN_region ?_)
  show Rest _ _ _ [0, 1, 2] _ _
  refine Rest.selDefault (cases := #[rcase ch (.agg #[.string ⟨#[]⟩, .string ⟨#[]⟩, .slice none 0 0])]) (w₁ := w) rfl rfl ?run ?no ?_
  case run => simp [go_sem, execOp, rcase, Act.eval]
  case no =>
    intro cc hcc
    simp only [List.mem_toArray, List.mem_cons, List.not_mem_nil, or_false] at hcc
    subst hcc
    exact noWay_recv hc
  rw [show commResult #[rcase ch (.agg #[.string ⟨#[]⟩, .string ⟨#[]⟩, .slice none 0 0])] .select (-1) undef false = .tuple #[goInt (-1), .bool false, .agg #[.string ⟨#[]⟩, .string ⟨#[]⟩, .slice none 0 0]] by simp [commResult, rcase, List.zipIdx_cons]]
  try simp only [Act.put, List.setIfInBounds_toArray, List.set_cons_zero, List.set_cons_succ]
  refine Rest.op rfl rfl (fun K hK => ?_)
  go_simp
  refine hK _ _ ?_
  clear hK K
  try simp only [Act.put, List.setIfInBounds_toArray, List.set_cons_zero, List.set_cons_succ]
  refine Rest.op rfl rfl (fun K hK => ?_)
  go_simp
  refine hK _ _ ?_
  clear hK K
  try simp only [Act.put, List.setIfInBounds_toArray, List.set_cons_zero, List.set_cons_succ]
  refine Rest.nil ?_
  show wpN _ _ _ _ _
  refine wpN_of_wp ?_
  go_wp2_with fail
  go_ret
  exact ⟨rfl, rfl⟩

set_option maxHeartbeats 400000 in
theorem equal_self (a : Option Addr) (n c : Nat) (z : Nat → Int) (w : World) (hn : n ≤ 9223372036854775807) (hc : ∀ i, i < n → ∃ b o, a = some ⟨b, o, none⟩ ∧ w.cell? ⟨b, o + i, none⟩ = some (.int .u8 (z i))) :
    Calls Yba.prog 6 #[.slice a n c, .slice a n c] w fun e w' => e = .returned (.bool true) ∧ Kept [] w w' := by
  go_enter Yba.func6, Yba.ntmps6
  go_wp2_with fail
  go_loopw [13] (fun i wr => ∃ j : Nat, i = .int .i64 j ∧ j ≤ n ∧ Kept [] w wr) (fun i _ => n - (intOf i).toNat)
  case atStart => exact ⟨0, rfl, Nat.zero_le _, Kept.refl _ _⟩
  case round =>
    obtain ⟨j, rfl, hj, hk⟩ := hrel
    by_cases hlt : j < n
    · obtain ⟨b, o, rfl, hcell⟩ := hc j hlt
      have c0 := hk.cell hcell (by simp)
      go_wp2_with fail
      go_region
      have hk' : Kept [] w wr.drew := hk.trans (Kept.drew _ _)
      generalize wr.drew = W1 at *
      clear c0
      go_wp2_with fail
      go_roundw
      case rel => exact ⟨j + 1, by go_num, by omega, hk'⟩
      case measure => simp [intOf] <;> omega
    · obtain rfl : j = n := by omega
      go_wp2_with fail
      go_ret
      exact ⟨rfl, hk⟩
end Go.Proofs.Ybulkcqnm
