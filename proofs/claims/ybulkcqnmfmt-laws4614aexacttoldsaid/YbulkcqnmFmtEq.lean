import Derived.Test.YbulkcqnmFmtAs4
import Derived.Laws.BytesArg
namespace Go.Proofs.YbulkcqnmFmt
set_option linter.unusedVariables false
set_option linter.unusedSimpArgs false
open Go.RowKit
/-- An owned row of bytes, not nil: its cells. -/
theorem bytes_form {w : World} {base : Nat} {v : Value} {xs : List Int} (h : w.ownsRow base 5 1 v xs.length (bs xs)) (h0 : 0 < xs.length) :
    ∃ g cap, v = .slice (some ⟨g, 0, none⟩) xs.length cap ∧ ∀ i, i < xs.length → w.cell? ⟨g, 0 + i, none⟩ = some (.int .u8 (xs.getD i 0)) := by
  obtain ⟨g, cap, rfl, _, _⟩ := h.form h0
  refine ⟨g, cap, rfl, fun i hi => ?_⟩
  have := h.cells (g := g) rfl i (.int .u8 (xs.getD i 0)) (by simp [bs, hi])
  rw [Addr.add_lit] at this
  exact this

set_option maxHeartbeats 400000 in
theorem equal_same (base base' : Nat) (v v' : Value) (xs : List Int) (w : World) (h : w.ownsRow base 5 1 v xs.length (bs xs)) (h' : w.ownsRow base' 5 1 v' xs.length (bs xs)) (h0 : 0 < xs.length) :
    Calls Ybaf.prog 8 #[v, v'] w fun r w' => r = .returned (.bool true) ∧ w' = w := by
  obtain ⟨g, c, rfl, hc⟩ := bytes_form h h0
  obtain ⟨g', c', rfl, hc'⟩ := bytes_form h' h0
  have k1 := run_convert_bytes_arg (P := Ybaf.prog) w 49 5 Ybaf.underlying49 Ybaf.underlying5 g 0 _ c xs rfl hc 9 Ybaf.underlying9
  have k2 := run_convert_bytes_arg (P := Ybaf.prog) w 49 5 Ybaf.underlying49 Ybaf.underlying5 g' 0 _ c' xs rfl hc' 9 Ybaf.underlying9
  clear hc hc' h h'
  go_enter Ybaf.func8, Ybaf.ntmps8
  go_wp2
  go_ret
  exact ⟨by simp, rfl⟩

theorem below_at {B : Nat} {w w' : World} (h : Below B w w') {b : Nat} {o : Obj} (hb : w.heap[b]? = some o) (hB : b < B) : w'.heap[b]? = some o := by rw [h.block b hB]; exact hb

/-- One entry of a message: name, address, port, state, incarnation. -/
structure Ent where
  name : ByteArray
  x : Int
  p : Int
  st : Nat
  inc : Int

/-- What encode writes of an entry. -/
def encE (e : Ent) : List Int := ([(e.st : Int)] ++ be e.inc 8) ++ ((e.name.size : Int) % 256 :: nums e.name) ++ (be (e.x % 4294967296) 4 ++ be e.p 2)
def encH (k seq : Int) (g : ByteArray) (x p : Int) (n : Nat) : List Int :=
  (([77, 115, 1] ++ [k]) ++ be seq 4 ++ ((g.size : Int) % 256 :: nums g) ++ (if k = 3 then be (x % 4294967296) 4 ++ be p 2 else [])) ++ [(n : Int) % 256]
def encAll (E : List Ent) : List Int := E.flatMap encE

theorem encE_length (e : Ent) : (encE e).length = e.name.size + 16 := by simp [encE, be_length, nums_length]; omega
theorem encH_length (k seq : Int) (g : ByteArray) (x p : Int) (n : Nat) : (encH k seq g x p n).length ≤ g.size + 20 := by
  unfold encH; split <;> simp [be_length, nums_length] <;> omega

/-- An entry is fit. -/
def Ent.ok (e : Ent) : Prop := e.name.size ≤ 1024 ∧ 0 ≤ e.x ∧ e.x < 18446744073709551616 ∧ 0 ≤ e.p ∧ e.p < 65536 ∧ e.st < 4 ∧ 0 ≤ e.inc ∧ e.inc < 18446744073709551616

/-- The seven cells of an entry. -/
def cellsE (z : Addr) (e : Ent) : List Value := [.string e.name, .int .u64 0, .int .u64 e.x, .pointer (some z), .int .u16 e.p, .string (stName e.st), .int .u64 e.inc]

/-- A message in memory. -/
structure IsMsg (mb : Nat) (k seq : Int) (g : ByteArray) (x : Int) (z : Addr) (p : Int) (E : List Ent) (va : Option Addr) (vc : Nat) (w : World) : Prop where
  block : w.heap[mb]? = some (.cells #[.int .u8 k, .int .u32 seq, .string g, .int .u64 0, .int .u64 x, .pointer (some z), .int .u16 p, .slice va E.length vc] 44)
  ents : ∀ i, i < E.length → ∃ ge, va = some ⟨ge, 0, none⟩ ∧ ge < w.heap.size ∧ ∀ j, j < 7 → w.cell? ⟨ge, i * 7 + j, none⟩ = (cellsE z (E.getD i ⟨.empty, 0, 0, 0, 0⟩))[j]?

theorem States.below {gs os cs : Nat} {w w' : World} {B : Nat} (h : States gs os cs w) (hb : Below B w w') (h0 : 0 < B) (hg : gs < B) : States gs os cs w' :=
  ⟨(hb.cell (p := ⟨0, 0, none⟩) h0).trans h.var, fun i hi => (hb.cell (p := ⟨gs, os + i, none⟩) hg).trans (h.row i hi)⟩

theorem getD_mem {E : List Ent} {j : Nat} {d : Ent} (h : j < E.length) : E.getD j d ∈ E := by
  rw [List.getD_eq_getElem?_getD, List.getElem?_eq_getElem h]; simp
theorem encAll_next (E : List Ent) (j : Nat) (h : j < E.length) : encAll (E.take (j + 1)) = encAll (E.take j) ++ encE (E.getD j ⟨.empty, 0, 0, 0, 0⟩) := by
  unfold encAll
  rw [List.take_succ_eq_append_getElem h, List.flatMap_append]
  simp [List.getD_eq_getElem?_getD, List.getElem?_eq_getElem h]
theorem encAll_len1 {E : List Ent} (hE : ∀ e ∈ E, e.ok) : ∀ j, j ≤ E.length → (encAll (E.take j)).length ≤ j * 1040 := by
  intro j
  induction j with
  | zero => intro _; simp [encAll]
  | succ j ih =>
    intro h
    rw [encAll_next E j (by omega), List.length_append, encE_length]
    have := ih (by omega)
    have h2 := (hE _ (getD_mem (d := ⟨.empty, 0, 0, 0, 0⟩) (show j < E.length by omega))).1
    omega
theorem encAll_len {E : List Ent} {k seq : Int} {g : ByteArray} {x p : Int} {j : Nat} (hE : ∀ e ∈ E, e.ok) (hg : g.size ≤ 1024) (hn : E.length ≤ 300) (hj : j ≤ E.length) : (encH k seq g x p E.length ++ encAll (E.take j)).length ≤ 350000 := by
  have h1 := encH_length k seq g x p E.length
  have h2 := encAll_len1 hE j hj
  rw [List.length_append]
  omega

theorem Appended.avoid {base : Nat} {v v' : Value} {xs news : List Int} {w w' : World} {nb : Nat} (h : Appended base v xs news w v' w') (hv : nb ∉ v.ownBlock.toList) (hnb : nb < w.heap.size) : nb ∉ v'.ownBlock.toList ∧ nb < w'.heap.size := by
  refine ⟨fun hx => ?_, Nat.lt_of_lt_of_le hnb h.2.1.size⟩
  rcases h.2.2.1 with h' | h'
  · rw [h'] at hx; exact hv hx
  · have := h' nb (by simpa using hx); omega

set_option maxRecDepth 20000 in
set_option maxHeartbeats 2000000 in
theorem encode_any (mb : Nat) (k seq : Int) (g : ByteArray) (x : Int) (z : Addr) (p : Int) (E : List Ent) (va : Option Addr) (vc gs os cs : Nat) (w : World) (hm : IsMsg mb k seq g x z p E va vc w) (hE : ∀ e ∈ E, e.ok) (hn : E.length ≤ 300)
    (hk0 : 0 ≤ k) (hk1 : k < 256) (hs0 : 0 ≤ seq) (hs1 : seq < 4294967296) (hg : g.size ≤ 1024) (hx0 : 0 ≤ x) (hx1 : x < 18446744073709551616) (hp0 : 0 ≤ p) (hp1 : p < 65536)
    (hz : w.cell? ⟨1, 0, none⟩ = some (.pointer (some z))) (hst : States gs os cs w) (hgs : gs < w.heap.size)
    (q0 : w.cell? ⟨2, 0, none⟩ = some (.int .u8 77)) (q1 : w.cell? ⟨2, 1, none⟩ = some (.int .u8 115)) (q2 : w.cell? ⟨2, 2, none⟩ = some (.int .u8 1)) :
    Calls Ybaf.prog 6 #[.pointer (some ⟨mb, 0, none⟩)] w fun r w' => ∃ v', r = .returned v' ∧ w'.ownsRow w.heap.size 5 1 v' (encH k seq g x p E.length ++ encAll E).length (bs (encH k seq g x p E.length ++ encAll E)) ∧ Below w.heap.size w w' := by
  obtain ⟨i0, hi, hy0, hy1, hy2⟩ := info_parts Ybaf.info5
  have l2 : 2 < w.heap.size := World.block_lt_of_cell? w _ q0
  have lm := lt_of_at hm.block
  go_enter Ybaf.func6, Ybaf.ntmps6
  go_wp2_with (at_builtin; refine wpList_bytes rfl (.tmp 6) (.tmp 7) 49 (by rfl) w.heap.size i0 Ybaf.underlying49 hi hy0 hy1 hy2 (.slice (some ⟨w.heap.size, 0, none⟩) 0 0) _ [] (by rfl) rfl ?own ⟨2, 0, none⟩ 3 3 [77, 115, 1] (by rfl) rfl (by omega) ?news (by simp) (by simp) ?_)
  case own => exact World.ownsRow_made w #[] 0 (Nat.le_refl _) (Nat.zero_le _) rfl
  case news =>
    intro j u hj
    have hj3 : j < 3 := by have := (List.getElem?_eq_some_iff.1 hj).1; simpa [bs] using this
    rw [Addr.add_lit]
    rcases (show j = 0 ∨ j = 1 ∨ j = 2 by omega) with rfl | rfl | rfl <;> simp [bs] at hj <;> subst hj
    · exact old_alloc q0 _
    · exact old_alloc q1 _
    · exact old_alloc q2 _
  intro v1 w1 A1
  have B0 : Below w.heap.size w (w.alloc (.cells #[] 5)) := (Below.refl _ _).alloc (Nat.le_refl _) _
  have O0 : (w.alloc (.cells #[] 5)).ownsRow w.heap.size 5 1 (.slice (some ⟨w.heap.size, 0, none⟩) 0 0) 0 [] := World.ownsRow_made w #[] 0 (Nat.le_refl _) (Nat.zero_le _) rfl
  have hsz0 : w.heap.size ≤ (w.alloc (.cells #[] 5)).heap.size := by simp
  have step : ∀ (v : Value) (L : List Int) (w' : World), Appended w.heap.size (.slice (some ⟨w.heap.size, 0, none⟩) 0 0) [] L (w.alloc (.cells #[] 5)) v w' → Below w.heap.size w w' ∧ w.heap.size ≤ w'.heap.size ∧ w'.ownsRow w.heap.size 5 1 v L.length (bs L) := fun v L w' h => by
    have hb := h.below O0 hsz0
    exact ⟨B0.trans hb, Nat.le_trans hsz0 hb.size, by simpa using h.owns⟩
  replace step : Hid _ := step
  clear hsz0 O0 B0
  obtain ⟨b1, z1, o1⟩ := step.out _ _ _ A1
  have m1 : w1.cell? ⟨mb, 0, none⟩ = some (.int .u8 k) := cell_at (below_at b1 hm.block lm) 0 rfl
  go_wp2_with (at_builtin; refine wpList_bytes rfl (.tmp 9) (.tmp 14) 49 (by rfl) w.heap.size i0 Ybaf.underlying49 hi hy0 hy1 hy2 v1 _ [77, 115, 1] (by rfl) rfl (o1.alloc _) ⟨w1.heap.size, 0, none⟩ 1 1 [k] (by rfl) rfl (by omega) ?news (by simp) (by simp; omega) ?_)
  case news => first | exact World.news_of_block (cs := #[.int .u8 k]) (alloc_at _ _) | (simp [bs]; done)
  intro v2 w2 A2
  have C2 := A1.trans (A2.of_kept (Kept.alloc _ _ _))
  obtain ⟨b2, z2, o2⟩ := step.out _ _ _ C2
  have m2 : w2.cell? ⟨mb, 1, none⟩ = some (.int .u32 seq) := cell_at (below_at b2 hm.block lm) 1 rfl
  clear A1 A2 o1 m1
  go_wp2_with fail
  refine wp_region_noPanic (wp_region_last (fun w' => w'.cell? ⟨mb, 1, none⟩ = some (.int .u32 seq)) [5] (by kernel_rfl) ?_)
  have hS := m2
  refine wpAnyL_free (i := 0) (v := ?_) rfl (by kernel_rfl) (by kernel_rfl) (by kernel_rfl) (fun _ _ _ h => h) (by rfl) ?_ ?_
  rotate_left
  · intro w'; go_simp; try with_reducible rfl
  try simp only [Act.put, List.setIfInBounds_toArray, List.set_cons_zero, List.set_cons_succ]
  refine wpAnyL_free (i := 1) (v := ?_) rfl (by kernel_rfl) (by kernel_rfl) (by kernel_rfl) (fun _ _ _ h => h) (by rfl) ?_ ?_
  rotate_left
  · intro w'; go_simp; try with_reducible rfl
  try simp only [Act.put, List.setIfInBounds_toArray, List.set_cons_zero, List.set_cons_succ]
  refine wpAnyL_free (i := 2) (v := ?_) rfl (by kernel_rfl) (by kernel_rfl) (by kernel_rfl) (fun _ _ _ h => h) (by rfl) ?_ ?_
  rotate_left
  · intro w'; go_simp; try with_reducible rfl
  try simp only [Act.put, List.setIfInBounds_toArray, List.set_cons_zero, List.set_cons_succ]
  refine wpAnyL_free (i := 3) (v := ?_) rfl (by kernel_rfl) (by kernel_rfl) (by kernel_rfl) (fun _ _ _ h => h) (by rfl) ?_ ?_
  rotate_left
  · intro w'; go_simp; try with_reducible rfl
  try simp only [Act.put, List.setIfInBounds_toArray, List.set_cons_zero, List.set_cons_succ]
  refine wpAnyL_free (i := 4) (v := ?_) rfl (by kernel_rfl) (by kernel_rfl) (by kernel_rfl) (fun _ _ _ h => h) (by rfl) ?_ ?_
  rotate_left
  · intro w'; go_simp; try with_reducible rfl
  try simp only [Act.put, List.setIfInBounds_toArray, List.set_cons_zero, List.set_cons_succ]
  refine wpAnyL_take (i := 5) (v := ?_) rfl (by kernel_rfl) (by kernel_rfl) (by kernel_rfl) (by kernel_rfl) (fun _ _ _ h => h) (by rfl) ?_ hS ?_
  rotate_left
  · intro w' hS'; go_simp; try with_reducible rfl
  try simp only [Act.put, List.setIfInBounds_toArray, List.set_cons_zero, List.set_cons_succ]
  refine wpAnyL_one (i := 6) (by kernel_rfl) rfl (by rfl) (fun K hK => ?_)
  go_simp
  refine (app32 w.heap.size v2 _ seq hs0 hs1 _ (show w2.drew.ownsRow _ _ _ _ _ _ from o2) (by exact z2) (by simp)).mono ?_
  rintro _ w3 ⟨v3, rfl, A3⟩
  have C3 := C2.trans (A3.of_kept (Kept.drew _ _))
  obtain ⟨b3, z3, o3⟩ := step.out _ _ _ C3
  refine hK.out _ _ (fun _ hS => ?_) ?_
  · exact cell_at (below_at b3 hm.block lm) 1 rfl
  clear hK K
  try simp only [Act.put, List.setIfInBounds_toArray, List.set_cons_zero, List.set_cons_succ]
  refine wpAnyL_free (i := 7) (v := ?_) rfl (by kernel_rfl) (by kernel_rfl) (by kernel_rfl) (fun _ _ _ h => h) (by rfl) ?_ ?_
  rotate_left
  · intro w'; go_simp; try with_reducible rfl
  try simp only [Act.put, List.setIfInBounds_toArray, List.set_cons_zero, List.set_cons_succ]
  refine wpAnyL_done (by kernel_rfl) ?_ _
  refine NoPanic.normal ?_
  have m3 : w3.cell? ⟨mb, 2, none⟩ = some (.string g) := cell_at (below_at b3 hm.block lm) 2 rfl
  clear hS m2 A3 C2 o2
  go_wp2_with fail
  refine (name_any w.heap.size v3 _ g hg _ o3 z3 (by simp [be_length])).mono ?_
  rintro _ w4 ⟨v4, rfl, A4⟩
  have C4 := C3.trans A4
  obtain ⟨b4, z4, o4⟩ := step.out _ _ _ C4
  have hm4 := below_at b4 hm.block lm
  have m4 : w4.cell? ⟨mb, 0, none⟩ = some (.int .u8 k) := cell_at hm4 0 rfl
  have m5 : w4.cell? ⟨mb, 3, none⟩ = some (.int .u64 0) := cell_at hm4 3 rfl
  have m6 : w4.cell? ⟨mb, 4, none⟩ = some (.int .u64 x) := cell_at hm4 4 rfl
  have m7 : w4.cell? ⟨mb, 5, none⟩ = some (.pointer (some z)) := cell_at hm4 5 rfl
  have m8 : w4.cell? ⟨mb, 6, none⟩ = some (.int .u16 p) := cell_at hm4 6 rfl
  have m9 : w4.cell? ⟨mb, 7, none⟩ = some (.slice va E.length vc) := cell_at hm4 7 rfl
  clear m3 A4 C3 o3 hm4
  by_cases hk : k = 3
  · subst hk
    have hz4 : w4.cell? ⟨1, 0, none⟩ = some (.pointer (some z)) := (b4.cell (p := ⟨1, 0, none⟩) (by simp; omega)).trans hz
    go_wp2_with fail
    refine (appendAddr_any w.heap.size v4 _ x p hx0 hx1 hp0 hp1 z w4 o4 z4 (by simp [be_length, nums_length]; omega) hz4 (by omega)).mono ?_
    rintro _ w5 ⟨v5, rfl, A5⟩
    have C5 := C4.trans A5
    obtain ⟨b5, z5, o5⟩ := step.out _ _ _ C5
    have m5 : w5.cell? ⟨mb, 7, none⟩ = some (.slice va E.length vc) := cell_at (below_at b5 hm.block lm) 7 rfl
    clear A5 C4 o4 m4 m6 m7 m8 m9
    have hlH : (((([77, 115, 1] ++ [3]) ++ be seq 4) ++ ((g.size : Int) % 256 :: nums g)) ++ (be (x % 4294967296) 4 ++ be p 2)).length ≤ 2000 := by simp [be_length, nums_length]; omega
    go_wp2_with (at_builtin; refine wpList_bytes rfl (.tmp 40) (.tmp 47) 49 (by rfl) w.heap.size i0 Ybaf.underlying49 hi hy0 hy1 hy2 v5 _ (((([77, 115, 1] ++ [3]) ++ be seq 4) ++ ((g.size : Int) % 256 :: nums g)) ++ (be (x % 4294967296) 4 ++ be p 2)) (by rfl) rfl (o5.alloc _) ⟨w5.heap.size, 0, none⟩ 1 1 [(E.length : Int) % 256] (by rfl) rfl (by omega) ?news (by omega) (by simp; omega) ?_)
    case news => first | exact World.news_of_block (cs := #[.int .u8 ((E.length : Int) % 256)]) (alloc_at _ _) | (simp [bs]; done)
    intro v6 w6 A6
    have C6 := C5.trans (A6.of_kept (Kept.alloc _ _ _))
    have eH : encH 3 seq g x p E.length = (((([77, 115, 1] ++ [3]) ++ be seq 4) ++ ((g.size : Int) % 256 :: nums g)) ++ (be (x % 4294967296) 4 ++ be p 2)) ++ [(E.length : Int) % 256] := by simp [encH]
    rw [← eH] at C6
    obtain ⟨b6, z6, o6⟩ := step.out _ _ _ C6
    have m6 : w6.cell? ⟨mb, 7, none⟩ = some (.slice va E.length vc) := cell_at (below_at b6 hm.block lm) 7 rfl
    have hlH6 := encH_length 3 seq g x p E.length
    clear A6 C5 o5 eH
    go_wp2_with fail
    go_loopw [3, 54] (fun b i wr => ∃ j : Nat, j ≤ E.length ∧ i = .int .i64 j ∧ Appended w.heap.size (.slice (some ⟨w.heap.size, 0, none⟩) 0 0) [] (encH 3 seq g x p E.length ++ encAll (E.take j)) (w.alloc (.cells #[] 5)) b wr) (fun _ i _ => E.length - (intOf i).toNat)
    case atStart => exact ⟨0, Nat.zero_le _, rfl, by simpa [encAll] using C6⟩
    case round =>
      obtain ⟨j, hj, rfl, hA⟩ := hrel
      obtain ⟨br, zr, or⟩ := step.out _ _ _ hA
      have hlr : (encH 3 seq g x p E.length ++ encAll (E.take j)).length ≤ 350000 := encAll_len hE hg hn hj
      by_cases hlt : j < E.length
      · obtain ⟨ge, rfl, hge, hcells⟩ := hm.ents j hlt
        have hok := hE (E.getD j ⟨.empty, 0, 0, 0, 0⟩) (getD_mem hlt)
        have hnext := encAll_next E j hlt
        generalize E.getD j ⟨.empty, 0, 0, 0, 0⟩ = en at hcells hok hnext
        obtain ⟨k1, k2, k3, k4, k5, k6, k7, k8⟩ := hok
        have c0 : wr.cell? ⟨ge, j * 7, none⟩ = some (.string en.name) := (br.cell (p := ⟨ge, j * 7, none⟩) hge).trans (hcells 0 (by omega))
        have c1 : wr.cell? ⟨ge, j * 7 + 1, none⟩ = some (.int .u64 0) := (br.cell (p := ⟨ge, j * 7 + 1, none⟩) hge).trans (hcells 1 (by omega))
        have c2 : wr.cell? ⟨ge, j * 7 + 2, none⟩ = some (.int .u64 en.x) := (br.cell (p := ⟨ge, j * 7 + 2, none⟩) hge).trans (hcells 2 (by omega))
        have c3 : wr.cell? ⟨ge, j * 7 + 3, none⟩ = some (.pointer (some z)) := (br.cell (p := ⟨ge, j * 7 + 3, none⟩) hge).trans (hcells 3 (by omega))
        have c4 : wr.cell? ⟨ge, j * 7 + 4, none⟩ = some (.int .u16 en.p) := (br.cell (p := ⟨ge, j * 7 + 4, none⟩) hge).trans (hcells 4 (by omega))
        have c5 : wr.cell? ⟨ge, j * 7 + 5, none⟩ = some (.string (stName en.st)) := (br.cell (p := ⟨ge, j * 7 + 5, none⟩) hge).trans (hcells 5 (by omega))
        have c6 : wr.cell? ⟨ge, j * 7 + 6, none⟩ = some (.int .u64 en.inc) := (br.cell (p := ⟨ge, j * 7 + 6, none⟩) hge).trans (hcells 6 (by omega))
        clear hcells
        go_wp2_with fail
        have hbx := alloc_at wr (.cells #[.string en.name, .int .u64 0, .int .u64 en.x, .pointer (some z), .int .u16 en.p, .string (stName en.st), .int .u64 en.inc] 48)
        have KX : Kept [] wr (wr.alloc (.cells #[.string en.name, .int .u64 0, .int .u64 en.x, .pointer (some z), .int .u16 en.p, .string (stName en.st), .int .u64 en.inc] 48)) := Kept.alloc _ _ _
        have BX : Below w.heap.size w (wr.alloc (.cells #[.string en.name, .int .u64 0, .int .u64 en.x, .pointer (some z), .int .u16 en.p, .string (stName en.st), .int .u64 en.inc] 48)) := br.alloc zr _
        have hnb : wr.heap.size ∉ u3.ownBlock.toList := fun h => by have := owns_lt or h; omega
        refine (stateCode_any gs os cs en.st k6 _ (hst.below BX (by omega) hgs)).mono ?_
        rintro _ _ ⟨rfl, rfl⟩
        have oX := KX.owns or (by simp)
        have zX := KX.size
        have lX := lt_of_at hbx
        generalize hWX : (wr.alloc (.cells #[.string en.name, .int .u64 0, .int .u64 en.x, .pointer (some z), .int .u16 en.p, .string (stName en.st), .int .u64 en.inc] 48)) = WX at *
        clear hWX c0 c1 c2 c3 c4 c5 c6 m6
        go_wp2_with (at_builtin; refine wpList_bytes rfl (.tmp 58) (.tmp 62) 49 (by rfl) w.heap.size i0 Ybaf.underlying49 hi hy0 hy1 hy2 u3 _ (encH 3 seq g x p E.length ++ encAll (E.take j)) (by rfl) rfl (oX.alloc _) ⟨WX.heap.size, 0, none⟩ 1 1 [(en.st : Int)] (by rfl) rfl (by omega) ?news (by omega) (by simp; omega) ?_)
        case news => first | exact World.news_of_block (cs := #[.int .u8 (en.st : Int)]) (alloc_at _ _) | (simp [bs]; done)
        intro va1 wa1 D1
        have F1 := D1.of_kept (Kept.alloc [] WX _)
        obtain ⟨n1, l1⟩ := F1.avoid hnb lX
        have x1 := F1.2.1.at hbx hnb
        have P1 := F1.owns
        have zz1 := F1.2.1.size
        have y1 : wa1.cell? ⟨wr.heap.size, 6, none⟩ = some (.int .u64 en.inc) := cell_at x1 6 rfl
        have ln1 : (encH 3 seq g x p E.length ++ encAll (E.take j) ++ [(en.st : Int)]).length ≤ 350001 := by rw [List.length_append]; simp only [List.length_cons, List.length_nil]; omega
        clear D1 oX
        go_wp2_with fail
        refine (app64 w.heap.size va1 _ en.inc k7 k8 _ P1 (by omega) (by omega)).mono ?_
        rintro _ wa2 ⟨va2, rfl, D2⟩
        obtain ⟨n2, l2⟩ := D2.avoid n1 l1
        have x2 := D2.2.1.at x1 n1
        have P2 := D2.owns
        have zz2 := D2.2.1.size
        have y2 : wa2.cell? ⟨wr.heap.size, 0, none⟩ = some (.string en.name) := cell_at x2 0 rfl
        have ln2 : ((encH 3 seq g x p E.length ++ encAll (E.take j) ++ [(en.st : Int)]) ++ be en.inc 8).length ≤ 350009 := by rw [List.length_append, be_length]; omega
        clear y1
        go_wp2_with fail
        refine (name_any w.heap.size va2 _ en.name k1 _ P2 (by omega) (by omega)).mono ?_
        rintro _ wa3 ⟨va3, rfl, D3⟩
        obtain ⟨n3, l3⟩ := D3.avoid n2 l2
        have x3 := D3.2.1.at x2 n2
        have P3 := D3.owns
        have zz3 := D3.2.1.size
        have y31 : wa3.cell? ⟨wr.heap.size, 1, none⟩ = some (.int .u64 0) := cell_at x3 1 rfl
        have y32 : wa3.cell? ⟨wr.heap.size, 2, none⟩ = some (.int .u64 en.x) := cell_at x3 2 rfl
        have y33 : wa3.cell? ⟨wr.heap.size, 3, none⟩ = some (.pointer (some z)) := cell_at x3 3 rfl
        have y34 : wa3.cell? ⟨wr.heap.size, 4, none⟩ = some (.int .u16 en.p) := cell_at x3 4 rfl
        have ln3 : (((encH 3 seq g x p E.length ++ encAll (E.take j) ++ [(en.st : Int)]) ++ be en.inc 8) ++ ((en.name.size : Int) % 256 :: nums en.name)).length ≤ 360009 := by rw [List.length_append, List.length_cons, nums_length]; omega
        clear y2
        have T3 := ((hA.trans (F1.of_kept KX)).trans D2).trans D3
        have bz3 := (step.out _ _ _ T3).1
        have hz3 : wa3.cell? ⟨1, 0, none⟩ = some (.pointer (some z)) := (bz3.cell (p := ⟨1, 0, none⟩) (by simp; omega)).trans hz
        go_wp2_with fail
        refine (appendAddr_any w.heap.size va3 _ en.x en.p k2 k3 k4 k5 z wa3 P3 (by omega) (by omega) hz3 (by omega)).mono ?_
        rintro _ wa4 ⟨va4, rfl, D4⟩
        have T4 := T3.trans D4
        have eT : encH 3 seq g x p E.length ++ encAll (E.take j) ++ [(en.st : Int)] ++ be en.inc 8 ++ ((en.name.size : Int) % 256 :: nums en.name) ++ (be (en.x % 4294967296) 4 ++ be en.p 2) = encH 3 seq g x p E.length ++ encAll (E.take (j + 1)) := by
          rw [hnext]; simp [encE]
        rw [eT] at T4
        clear eT D2 D3 D4 F1 T3 P1 P2 P3 y31 y32 y33 y34 x1 x2 x3 hA or hnext hbx
        go_wp2_with fail
        go_roundw
        case rel => exact ⟨j + 1, by omega, by go_num, T4⟩
        case measure => simp [intOf] <;> omega
      · obtain rfl : j = E.length := by omega
        go_wp2_with fail
        go_ret
        rw [List.take_length] at or
        exact ⟨_, rfl, or, br⟩
  · have hlH : ((([77, 115, 1] ++ [k]) ++ be seq 4) ++ ((g.size : Int) % 256 :: nums g)).length ≤ 2000 := by simp [be_length, nums_length]; omega
    go_wp2_with (at_builtin; refine wpList_bytes rfl (.tmp 40) (.tmp 47) 49 (by rfl) w.heap.size i0 Ybaf.underlying49 hi hy0 hy1 hy2 v4 _ ((([77, 115, 1] ++ [k]) ++ be seq 4) ++ ((g.size : Int) % 256 :: nums g)) (by rfl) rfl (o4.alloc _) ⟨w4.heap.size, 0, none⟩ 1 1 [(E.length : Int) % 256] (by rfl) rfl (by omega) ?news (by omega) (by simp; omega) ?_)
    case news => first | exact World.news_of_block (cs := #[.int .u8 ((E.length : Int) % 256)]) (alloc_at _ _) | (simp [bs]; done)
    intro v6 w6 A6
    have C6 := C4.trans (A6.of_kept (Kept.alloc _ _ _))
    have eH : encH k seq g x p E.length = ((([77, 115, 1] ++ [k]) ++ be seq 4) ++ ((g.size : Int) % 256 :: nums g)) ++ [(E.length : Int) % 256] := by simp [encH, hk]
    rw [← eH] at C6
    obtain ⟨b6, z6, o6⟩ := step.out _ _ _ C6
    have m6 : w6.cell? ⟨mb, 7, none⟩ = some (.slice va E.length vc) := cell_at (below_at b6 hm.block lm) 7 rfl
    have hlH6 := encH_length k seq g x p E.length
    clear A6 C4 o4 eH
    go_wp2_with fail
    go_loopw [3, 54] (fun b i wr => ∃ j : Nat, j ≤ E.length ∧ i = .int .i64 j ∧ Appended w.heap.size (.slice (some ⟨w.heap.size, 0, none⟩) 0 0) [] (encH k seq g x p E.length ++ encAll (E.take j)) (w.alloc (.cells #[] 5)) b wr) (fun _ i _ => E.length - (intOf i).toNat)
    case atStart => exact ⟨0, Nat.zero_le _, rfl, by simpa [encAll] using C6⟩
    case round =>
      obtain ⟨j, hj, rfl, hA⟩ := hrel
      obtain ⟨br, zr, or⟩ := step.out _ _ _ hA
      have hlr : (encH k seq g x p E.length ++ encAll (E.take j)).length ≤ 350000 := encAll_len hE hg hn hj
      by_cases hlt : j < E.length
      · obtain ⟨ge, rfl, hge, hcells⟩ := hm.ents j hlt
        have hok := hE (E.getD j ⟨.empty, 0, 0, 0, 0⟩) (getD_mem hlt)
        have hnext := encAll_next E j hlt
        generalize E.getD j ⟨.empty, 0, 0, 0, 0⟩ = en at hcells hok hnext
        obtain ⟨k1, k2, k3, k4, k5, k6, k7, k8⟩ := hok
        have c0 : wr.cell? ⟨ge, j * 7, none⟩ = some (.string en.name) := (br.cell (p := ⟨ge, j * 7, none⟩) hge).trans (hcells 0 (by omega))
        have c1 : wr.cell? ⟨ge, j * 7 + 1, none⟩ = some (.int .u64 0) := (br.cell (p := ⟨ge, j * 7 + 1, none⟩) hge).trans (hcells 1 (by omega))
        have c2 : wr.cell? ⟨ge, j * 7 + 2, none⟩ = some (.int .u64 en.x) := (br.cell (p := ⟨ge, j * 7 + 2, none⟩) hge).trans (hcells 2 (by omega))
        have c3 : wr.cell? ⟨ge, j * 7 + 3, none⟩ = some (.pointer (some z)) := (br.cell (p := ⟨ge, j * 7 + 3, none⟩) hge).trans (hcells 3 (by omega))
        have c4 : wr.cell? ⟨ge, j * 7 + 4, none⟩ = some (.int .u16 en.p) := (br.cell (p := ⟨ge, j * 7 + 4, none⟩) hge).trans (hcells 4 (by omega))
        have c5 : wr.cell? ⟨ge, j * 7 + 5, none⟩ = some (.string (stName en.st)) := (br.cell (p := ⟨ge, j * 7 + 5, none⟩) hge).trans (hcells 5 (by omega))
        have c6 : wr.cell? ⟨ge, j * 7 + 6, none⟩ = some (.int .u64 en.inc) := (br.cell (p := ⟨ge, j * 7 + 6, none⟩) hge).trans (hcells 6 (by omega))
        clear hcells
        go_wp2_with fail
        have hbx := alloc_at wr (.cells #[.string en.name, .int .u64 0, .int .u64 en.x, .pointer (some z), .int .u16 en.p, .string (stName en.st), .int .u64 en.inc] 48)
        have KX : Kept [] wr (wr.alloc (.cells #[.string en.name, .int .u64 0, .int .u64 en.x, .pointer (some z), .int .u16 en.p, .string (stName en.st), .int .u64 en.inc] 48)) := Kept.alloc _ _ _
        have BX : Below w.heap.size w (wr.alloc (.cells #[.string en.name, .int .u64 0, .int .u64 en.x, .pointer (some z), .int .u16 en.p, .string (stName en.st), .int .u64 en.inc] 48)) := br.alloc zr _
        have hnb : wr.heap.size ∉ u3.ownBlock.toList := fun h => by have := owns_lt or h; omega
        refine (stateCode_any gs os cs en.st k6 _ (hst.below BX (by omega) hgs)).mono ?_
        rintro _ _ ⟨rfl, rfl⟩
        have oX := KX.owns or (by simp)
        have zX := KX.size
        have lX := lt_of_at hbx
        generalize hWX : (wr.alloc (.cells #[.string en.name, .int .u64 0, .int .u64 en.x, .pointer (some z), .int .u16 en.p, .string (stName en.st), .int .u64 en.inc] 48)) = WX at *
        clear hWX c0 c1 c2 c3 c4 c5 c6 m6
        go_wp2_with (at_builtin; refine wpList_bytes rfl (.tmp 58) (.tmp 62) 49 (by rfl) w.heap.size i0 Ybaf.underlying49 hi hy0 hy1 hy2 u3 _ (encH k seq g x p E.length ++ encAll (E.take j)) (by rfl) rfl (oX.alloc _) ⟨WX.heap.size, 0, none⟩ 1 1 [(en.st : Int)] (by rfl) rfl (by omega) ?news (by omega) (by simp; omega) ?_)
        case news => first | exact World.news_of_block (cs := #[.int .u8 (en.st : Int)]) (alloc_at _ _) | (simp [bs]; done)
        intro va1 wa1 D1
        have F1 := D1.of_kept (Kept.alloc [] WX _)
        obtain ⟨n1, l1⟩ := F1.avoid hnb lX
        have x1 := F1.2.1.at hbx hnb
        have P1 := F1.owns
        have zz1 := F1.2.1.size
        have y1 : wa1.cell? ⟨wr.heap.size, 6, none⟩ = some (.int .u64 en.inc) := cell_at x1 6 rfl
        have ln1 : (encH k seq g x p E.length ++ encAll (E.take j) ++ [(en.st : Int)]).length ≤ 350001 := by rw [List.length_append]; simp only [List.length_cons, List.length_nil]; omega
        clear D1 oX
        go_wp2_with fail
        refine (app64 w.heap.size va1 _ en.inc k7 k8 _ P1 (by omega) (by omega)).mono ?_
        rintro _ wa2 ⟨va2, rfl, D2⟩
        obtain ⟨n2, l2⟩ := D2.avoid n1 l1
        have x2 := D2.2.1.at x1 n1
        have P2 := D2.owns
        have zz2 := D2.2.1.size
        have y2 : wa2.cell? ⟨wr.heap.size, 0, none⟩ = some (.string en.name) := cell_at x2 0 rfl
        have ln2 : ((encH k seq g x p E.length ++ encAll (E.take j) ++ [(en.st : Int)]) ++ be en.inc 8).length ≤ 350009 := by rw [List.length_append, be_length]; omega
        clear y1
        go_wp2_with fail
        refine (name_any w.heap.size va2 _ en.name k1 _ P2 (by omega) (by omega)).mono ?_
        rintro _ wa3 ⟨va3, rfl, D3⟩
        obtain ⟨n3, l3⟩ := D3.avoid n2 l2
        have x3 := D3.2.1.at x2 n2
        have P3 := D3.owns
        have zz3 := D3.2.1.size
        have y31 : wa3.cell? ⟨wr.heap.size, 1, none⟩ = some (.int .u64 0) := cell_at x3 1 rfl
        have y32 : wa3.cell? ⟨wr.heap.size, 2, none⟩ = some (.int .u64 en.x) := cell_at x3 2 rfl
        have y33 : wa3.cell? ⟨wr.heap.size, 3, none⟩ = some (.pointer (some z)) := cell_at x3 3 rfl
        have y34 : wa3.cell? ⟨wr.heap.size, 4, none⟩ = some (.int .u16 en.p) := cell_at x3 4 rfl
        have ln3 : (((encH k seq g x p E.length ++ encAll (E.take j) ++ [(en.st : Int)]) ++ be en.inc 8) ++ ((en.name.size : Int) % 256 :: nums en.name)).length ≤ 360009 := by rw [List.length_append, List.length_cons, nums_length]; omega
        clear y2
        have T3 := ((hA.trans (F1.of_kept KX)).trans D2).trans D3
        have bz3 := (step.out _ _ _ T3).1
        have hz3 : wa3.cell? ⟨1, 0, none⟩ = some (.pointer (some z)) := (bz3.cell (p := ⟨1, 0, none⟩) (by simp; omega)).trans hz
        go_wp2_with fail
        refine (appendAddr_any w.heap.size va3 _ en.x en.p k2 k3 k4 k5 z wa3 P3 (by omega) (by omega) hz3 (by omega)).mono ?_
        rintro _ wa4 ⟨va4, rfl, D4⟩
        have T4 := T3.trans D4
        have eT : encH k seq g x p E.length ++ encAll (E.take j) ++ [(en.st : Int)] ++ be en.inc 8 ++ ((en.name.size : Int) % 256 :: nums en.name) ++ (be (en.x % 4294967296) 4 ++ be en.p 2) = encH k seq g x p E.length ++ encAll (E.take (j + 1)) := by
          rw [hnext]; simp [encE]
        rw [eT] at T4
        clear eT D2 D3 D4 F1 T3 P1 P2 P3 y31 y32 y33 y34 x1 x2 x3 hA or hnext hbx
        go_wp2_with fail
        go_roundw
        case rel => exact ⟨j + 1, by omega, by go_num, T4⟩
        case measure => simp [intOf] <;> omega
      · obtain rfl : j = E.length := by omega
        go_wp2_with fail
        go_ret
        rw [List.take_length] at or
        exact ⟨_, rfl, or, br⟩
end Go.Proofs.YbulkcqnmFmt
