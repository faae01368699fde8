import Derived.Test.YbulkcqsiFmtVany
namespace Go.Proofs.YbulkcqsiFmt
set_option linter.unusedVariables false
set_option linter.unusedSimpArgs false
open Go.RowKit Go.Extern.Stop Go.Stop Go.Extern

def preS (j : Nat) : ByteArray := [⟨#[]⟩, ⟨#[32]⟩, ⟨#[91]⟩, ⟨#[123, 34, 107, 34, 58]⟩].getD j ⟨#[]⟩
def preV : Array Value := #[.string ⟨#[]⟩, .string ⟨#[32]⟩, .string ⟨#[91]⟩, .string ⟨#[123, 34, 107, 34, 58]⟩]
def posS (j : Nat) : ByteArray := [⟨#[]⟩, ⟨#[44]⟩, ⟨#[125]⟩, ⟨#[93]⟩, ⟨#[32, 49]⟩, ⟨#[10]⟩].getD j ⟨#[]⟩
def posV : Array Value := #[.string ⟨#[]⟩, .string ⟨#[44]⟩, .string ⟨#[125]⟩, .string ⟨#[93]⟩, .string ⟨#[32, 49]⟩, .string ⟨#[10]⟩]
theorem preV_at {j : Nat} (h : j < 4) : preV[j]? = some (.string (preS j)) ∧ (preS j).size ≤ 5 := by
  rcases (show j = 0 ∨ j = 1 ∨ j = 2 ∨ j = 3 by omega) with rfl | rfl | rfl | rfl <;> exact ⟨rfl, by decide⟩
theorem posV_at {j : Nat} (h : j < 6) : posV[j]? = some (.string (posS j)) ∧ (posS j).size ≤ 2 ∧ (0 < (nums (posS j)).length → isDe ((nums (posS j)).getD 0 0) = true) := by
  rcases (show j = 0 ∨ j = 1 ∨ j = 2 ∨ j = 3 ∨ j = 4 ∨ j = 5 by omega) with rfl | rfl | rfl | rfl | rfl | rfl <;> exact ⟨rfl, by decide, by decide⟩

set_option maxRecDepth 20000 in
set_option maxHeartbeats 4000000 in
theorem wf_main (F : Interp) (oa : Option Addr) (n0 oc : Nat) (z : Nat → Int) (pr po : Int) (w : World) (hF : F.answers w.tape) (hn0 : n0 ≤ 1024)
    (hop : ∀ i, i < n0 → ∃ b o, oa = some ⟨b, o, none⟩ ∧ w.cell? ⟨b, o + i, none⟩ = some (.int .u8 (z i)) ∧ 0 ≤ z i ∧ z i < 256)
    (p0 : 0 ≤ pr) (p1 : pr < 256) (q0 : 0 ≤ po) (q1 : po < 256) :
    Calls Ybaf.prog 3 #[.slice oa n0 oc, .int .u8 pr, .int .u8 po] w fun r w' => r = .returned (.bool true) ∧ Below w.heap.size w w' := by
  obtain ⟨i0, hi, hz0, hz1, hz2⟩ := info_parts Ybaf.info5
  obtain ⟨j, hj, hj4⟩ : ∃ j : Nat, (pr % 4).toNat = j ∧ j < 4 := ⟨_, rfl, by omega⟩
  obtain ⟨l, hl, hl6⟩ : ∃ l : Nat, (po % 6).toNat = l ∧ l < 6 := ⟨_, rfl, by omega⟩
  obtain ⟨e1, e2⟩ := preV_at hj4
  obtain ⟨f1, f2, f3⟩ := posV_at hl6
  have ep : ∀ h : j < [Value.string ⟨#[]⟩, .string ⟨#[32]⟩, .string ⟨#[91]⟩, .string ⟨#[123, 34, 107, 34, 58]⟩].length, [Value.string ⟨#[]⟩, .string ⟨#[32]⟩, .string ⟨#[91]⟩, .string ⟨#[123, 34, 107, 34, 58]⟩][j]'h = .string (preS j) := fun h => by
    rcases (show j = 0 ∨ j = 1 ∨ j = 2 ∨ j = 3 by omega) with rfl | rfl | rfl | rfl <;> rfl
  have eq : ∀ h : l < [Value.string ⟨#[]⟩, .string ⟨#[44]⟩, .string ⟨#[125]⟩, .string ⟨#[93]⟩, .string ⟨#[32, 49]⟩, .string ⟨#[10]⟩].length, [Value.string ⟨#[]⟩, .string ⟨#[44]⟩, .string ⟨#[125]⟩, .string ⟨#[93]⟩, .string ⟨#[32, 49]⟩, .string ⟨#[10]⟩][l]'h = .string (posS l) := fun h => by
    rcases (show l = 0 ∨ l = 1 ∨ l = 2 ∨ l = 3 ∨ l = 4 ∨ l = 5 by omega) with rfl | rfl | rfl | rfl | rfl | rfl <;> rfl
  have hep : Hid _ := ep
  have heq : Hid _ := eq
  clear ep eq
  go_enter Ybaf.func3, Ybaf.ntmps3
  go_wp2_with fail
  have ep := hep.out
  have eq := heq.out
  simp only [ep, eq]
  clear ep eq hep heq e1 f1
  have hst : St oa n0 w.heap.size (w.heap.size + 1 + 1) (w.heap.size + 1 + 1 + 1) (w.heap.size + 1 + 1 + 1 + 1) z false ((((w.alloc (.cells preV 23)).alloc (.cells posV 24)).alloc (.cells #[.int .i64 0] 3)).alloc (.cells #[.bool false] 4)) := by
    have K : Kept [] w ((((w.alloc (.cells preV 23)).alloc (.cells posV 24)).alloc (.cells #[.int .i64 0] 3)).alloc (.cells #[.bool false] 4)) := (((Kept.alloc _ _ _).trans (Kept.alloc _ _ _)).trans (Kept.alloc _ _ _)).trans (Kept.alloc _ _ _)
    refine ⟨fun i hi' => ?_, ⟨0, Nat.zero_le _, ?_⟩, ?_, by omega, by omega, by omega, by omega, by omega, by simp, hn0⟩
    · obtain ⟨b, o, rfl, hc, hz⟩ := hop i hi'
      exact ⟨b, o, rfl, World.block_lt_of_cell? w _ hc, K.cell hc (by simp), hz⟩
    · have := alloc_at ((w.alloc (.cells preV 23)).alloc (.cells posV 24)) (.cells #[.int .i64 0] 3)
      have h2 := (Kept.alloc [] (((w.alloc (.cells preV 23)).alloc (.cells posV 24)).alloc (.cells #[.int .i64 0] 3)) (.cells #[.bool false] 4)).at this (by simp)
      simpa using h2
    · have := alloc_at (((w.alloc (.cells preV 23)).alloc (.cells posV 24)).alloc (.cells #[.int .i64 0] 3)) (.cells #[.bool false] 4)
      simpa using this
  have B4 : Below w.heap.size w ((((w.alloc (.cells preV 23)).alloc (.cells posV 24)).alloc (.cells #[.int .i64 0] 3)).alloc (.cells #[.bool false] 4)) := by
    have K : Kept [] w ((((w.alloc (.cells preV 23)).alloc (.cells posV 24)).alloc (.cells #[.int .i64 0] 3)).alloc (.cells #[.bool false] 4)) := (((Kept.alloc _ _ _).trans (Kept.alloc _ _ _)).trans (Kept.alloc _ _ _)).trans (Kept.alloc _ _ _)
    exact K.below (Nat.le_refl _) (by simp)
  have hF4 : F.answers ((((w.alloc (.cells preV 23)).alloc (.cells posV 24)).alloc (.cells #[.int .i64 0] 3)).alloc (.cells #[.bool false] 4)).tape := hF
  clear hop
  generalize hW4 : ((((w.alloc (.cells preV 23)).alloc (.cells posV 24)).alloc (.cells #[.int .i64 0] 3)).alloc (.cells #[.bool false] 4)) = w4 at hst B4 hF4
  have call := gen_any 5 0 rfl oa n0 w.heap.size (w.heap.size + 1 + 1) (w.heap.size + 1 + 1 + 1) (w.heap.size + 1 + 1 + 1 + 1) z false oc (.slice none 0 0) [] w4 ⟨World.ownsRow_nil _ _ _ _, hst, Below.refl _ _⟩ (by decide)
  rw [← hW4] at call
  refine Calls.mono (show Calls Ybaf.prog 5 _ _ _ from call) ?_
  rw [hW4]
  rintro _ w5 ⟨v5, T, rfl, g5, hT⟩
  clear call hW4 hst
  have o5 := g5.own
  simp only [List.nil_append] at o5
  have s5 := g5.st
  rw [Bool.false_or] at s5
  have B5 := B4.trans g5.below
  have hF5 : F.answers w5.tape := by rw [g5.below.tape]; exact hF4
  clear g5 B4 hF4 hF
  have hpos := hT.pos
  have hlen := hT.len
  rw [show LB 5 = 10662 from rfl] at hlen
  obtain ⟨g, cap, rfl, hgb, hgs, hgc, hgx⟩ := own_bytes2 o5 hpos
  have hnews5 : ∀ m u, (bs (byts T))[m]? = some u → w5.cell? ((⟨g, 0, none⟩ : Addr).add m) = some u := o5.cells (g := g) rfl
  have hflag := s5.flag
  have hbbl := s5.b1
  have hss := s5.size
  clear o5 hgx s5
  generalize preS j = ps at *
  generalize posS l = qs at *
  have hT' : Hid (Good T 5) := hT
  clear hT
  obtain ⟨L, hL⟩ : ∃ L, (byts T).length = L := ⟨_, rfl⟩
  rw [hL] at hpos hlen hgc ⊢
  go_wp2_with (at_make; go_must (refine wpList_make_own _ rfl (.const (.int .i64 0)) (.tmp 41) 22 (by rfl) w5.heap.size 5 i0 (.int .u8 0) 1 Ybaf.underlying22 hi hz0 hz1 .i64 .i64 ((ps.size : Int) + (L : Int) + (qs.size : Int)) (ps.size + L + qs.size) (by rfl) (by rfl) (by omega) (by rw [hz2]; omega) (by unfold maxLen; omega) (by omega) ?_))
  intro w6 o6 gr6
  have K6 : Kept [] w5 w6 := Kept.grown gr6 (by simp)
  have z6 := K6.size
  clear gr6
  go_wp2_with (at_builtin; go_must (refine wpList_str rfl (.tmp 43) (.tmp 44) 22 9 (by rfl) w5.heap.size i0 Ybaf.underlying22 Ybaf.underlying9 hi hz0 hz1 hz2 _ 0 [] (by rfl) rfl o6 ps (by rfl) (by omega) z6 ?_))
  intro v7 w7 hA
  have K7 : Kept [] w5 w7 := K6.trans' hA.2.1 (fun x hx => .inr (o6.lt x (by simpa using hx)).1)
  have o7 : w7.ownsRow w5.heap.size 5 1 v7 (nums ps).length (bs (nums ps)) := by have := hA.1; simpa [nums] using this
  have z7 := K7.size
  clear hA o6 K6 z6
  have hn7 : (nums ps).length ≤ 5 := by rw [nums_length]; exact e2
  have hnews7 : Hid (∀ m u, (bs (byts T))[m]? = some u → w7.cell? ((⟨g, 0, none⟩ : Addr).add m) = some u) := fun m u hu => by
    have := hnews5 m u hu
    rw [Addr.add_lit] at this ⊢
    exact K7.cell this (by simp)
  clear hnews5
  go_wp2_with (at_builtin; go_must (refine wpList_bytes rfl (.tmp 46) (.tmp 47) 22 (by rfl) w5.heap.size i0 Ybaf.underlying22 hi hz0 hz1 hz2 v7 _ (nums ps) (by rfl) rfl o7 ⟨g, 0, none⟩ L cap (byts T) (by rfl) hL.symm hpos hnews7.out (by omega) z7 ?_))
  intro v8 w8 hA
  have K8 : Kept [] w5 w8 := K7.trans' hA.2.1 (fun x hx => .inr (o7.lt x (by simpa using hx)).1)
  have o8 : w8.ownsRow w5.heap.size 5 1 v8 (nums ps ++ byts T).length (bs (nums ps ++ byts T)) := by rw [List.length_append]; exact hA.1
  have z8 := K8.size
  clear hA o7 K7 z7 hnews7
  have hn8 : (nums ps ++ byts T).length ≤ 11000 := by rw [List.length_append, hL]; omega
  go_wp2_with (at_builtin; go_must (refine wpList_str rfl (.tmp 49) (.tmp 50) 22 9 (by rfl) w5.heap.size i0 Ybaf.underlying22 Ybaf.underlying9 hi hz0 hz1 hz2 v8 _ (nums ps ++ byts T) (by rfl) rfl o8 qs (by rfl) (by omega) z8 ?_))
  intro v9 w9 hA
  have K9 : Kept [] w5 w9 := K8.trans' hA.2.1 (fun x hx => .inr (o8.lt x (by simpa using hx)).1)
  have o9 : w9.ownsRow w5.heap.size 5 1 v9 (nums ps ++ byts T ++ nums qs).length (bs (nums ps ++ byts T ++ nums qs)) := by
    have e : (nums ps ++ byts T ++ nums qs).length = (nums ps ++ byts T).length + (nums qs).length := List.length_append
    rw [e]; exact hA.1
  clear hA o8 K8 z8
  obtain ⟨g9, cap9, rfl, hg9, hg9s, hc9, hx9⟩ := own_bytes2 o9 (by simp [hL]; omega)
  have hF9 : F.answers w9.tape := by rw [K9.tape]; exact hF5
  have call0 := value_any F T 5 hT'.out g9 cap9 (nums ps) (nums qs) w9 hF9 hx9 f3 (by simp [hL, nums_length] at hn8 ⊢; omega) hc9
  rw [nums_length, hL] at call0
  obtain ⟨n, hn⟩ : ∃ n, (nums ps ++ byts T ++ nums qs).length = n := ⟨_, rfl⟩
  rw [hn] at call0 ⊢
  have call : Hid (Calls Ybaf.prog 6 #[.slice (some ⟨g9, 0, none⟩) n cap9, .int .i64 ps.size] w9 fun r w' => Ends (hasBad T) (ps.size + L) r ∧ Kept [] w9 w') := call0
  clear call0 hx9 o9 hF9 hT' hc9 hn f3
  have hfl9 := K9.at hflag (by simp)
  generalize hasBad T = bad at *
  go_wp2_with fail
  refine Calls.mono call.out ?_
  rintro _ w10 ⟨hE, K10⟩
  have c10 : w10.cell? ⟨w.heap.size + 1 + 1 + 1, 0, none⟩ = some (.bool bad) := cell_at (K10.at hfl9 (by simp)) 0 rfl
  have B10 : Below w.heap.size w w10 := B5.trans ((K9.trans K10).below (by have := B5.size; omega) (by simp))
  clear call hfl9 hflag B5 K9 K10
  rcases hE with ⟨rfl, rfl⟩ | ⟨rfl, q, rfl⟩
  · go_wp2_with fail
    go_ret
    exact ⟨by simp, B10⟩
  · go_wp2_with fail
    go_ret
    exact ⟨by simp, B10⟩
end Go.Proofs.YbulkcqsiFmt
