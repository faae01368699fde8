/-
  THE PROOF OF 'Rows.LawS4615AChildSaid'. The walk: YbulkcqoaLaw.lean (walk_main). The row's step after the guide's own way.
-/
import Derived.Test.YbulkcqoaRows
import Derived.Test.YbulkcqoaLaw
import Derived.ProofKit
import Derived.OpenShut
import Derived.ShutString
import Derived.ChangeOld
import Derived.Below
import Derived.SliceStrings
namespace Go.Proofs.Ybulkcqoa.lawS4615AChild
open Go.ChangeShapes Go.WideShapes Go.ChangeAt Go.RowKit
open Go.ChangeMaps (open_string shut_string)
set_option linter.unusedVariables false
set_option linter.unusedSimpArgs false

theorem own : ownKnob Yba.prog.godebug = none := by kernel_rfl
theorem laidOut : laidOutB Yba.prog = true := by kernel_rfl

theorem strs_at {w : World} {a : Addr} {ss : List ByteArray} (h : ∀ i, i < ss.length → w.cell? (a.add i) = some (.string (ss.getD i .empty))) (hp : 0 < ss.length) :
    ∃ b off, a = ⟨b, off, none⟩ ∧ ∀ j, j < ss.length → w.cell? ⟨b, off + j, none⟩ = some (.string (ss.getD j .empty)) := by
  obtain ⟨b, off, spot⟩ := a
  have hspot : spot = none := by simpa [Addr.add] using World.cell?_spot (h 0 hp)
  subst hspot
  exact ⟨b, off, rfl, fun j hj => by rw [← Go.WideShapes.add_plain]; exact h j hj⟩

set_option maxRecDepth 20000 in
theorem walk (pa : Option Addr) (pc : Nat) (Z : List ByteArray) (key : ByteArray) (kd line tline : Int) (w : World)
    (hk : key.size ≤ maxLen) (hZ : ∀ s ∈ Z, s.size ≤ maxLen) (hk0 : 0 ≤ kd) (hk1 : kd < 256)
    (hl0 : -9223372036854775808 ≤ line) (hl1 : line ≤ 9223372036854775807) (ht0 : -9223372036854775808 ≤ tline) (ht1 : tline ≤ 9223372036854775807)
    (hp : ∀ i, i < Z.length → ∃ b o, pa = some ⟨b, o, none⟩ ∧ w.cell? ⟨b, o + i, none⟩ = some (.string (Z.getD i .empty))) :
    Calls Yba.prog 3 #[.slice pa Z.length pc, .string key, .int .u8 kd, .int .i64 line, .int .i64 tline] w fun e w' => e = .returned (.bool true) ∧ Below w.heap.size w w' := by
  by_cases hn : Z.length ≤ 1024
  · exact walk_main pa pc Z key kd line tline w hn hk hZ hk0 hk1 hl0 hl1 ht0 ht1 hp
  · clear hp hZ
    go_enter Yba.func3, Yba.ntmps3
    go_wp2
    go_ret
    exact ⟨rfl, Below.refl _ _⟩

set_option maxRecDepth 100000 in
theorem lifted (os : Os) (started : os.Started) (H : Type) (enc : TypeId × Value → H) :
    ReturnsInHanded {} Yba.checked os 3 .any (Rows.lawS4615AChildSpec.pre6 enc Yba.prog Yba.f3 Rows.lawS4615AChildRow.domain false) (Rows.lawS4615AChildSpec.post enc Yba.prog Yba.f3 false true false false) := by
  refine returnsInHanded_of_change (C := Yba.checked) own started (by kernel_rfl) Yba.func3
    (ChangeSpec.witness6 (enc := enc) (C := Yba.checked) false ⟨#[], #[.slice none 0 0, .string ⟨#[]⟩, .int .u8 0, .int .i64 0, .int .i64 0], []⟩ 8 (by kernel_rfl) (by kernel_rfl) (by kernel_rfl) (by kernel_rfl)) ?_
  intro W base args ds gs before hval0 hW hcnd _
  have hval : ∀ (j : Nat) t v, Yba.f3.params[j]? = some t → args[j]? = some v → Value.okWide Yba.prog W .any base t v := hval0
  have hW' := hW
  obtain ⟨p, q, hA0, hV, rfl, hfz, hnd⟩ := hW
  have hA : DataW.TrodAll enc Yba.prog W 0 (fun _ => true) true Yba.f3.params.toList args.toList ds p := hA0
  rw [Yba.params3] at hA hval
  obtain ⟨v0, vs0, d0, ds0, p0, q0, hargs, rfl, rfl, h0, r0⟩ := trodAll_cons hA
  obtain ⟨v1, vs1, d1, ds1, p1, q1, rfl, rfl, rfl, h1, r1⟩ := trodAll_cons r0
  obtain ⟨v2, vs2, d2, ds2, p2, q2, rfl, rfl, rfl, h2, r2⟩ := trodAll_cons r1
  obtain ⟨v3, vs3, d3, ds3, p3, q3, rfl, rfl, rfl, h3, r3⟩ := trodAll_cons r2
  obtain ⟨v4, vs4, d4, ds4, p4, q4, rfl, rfl, rfl, h4, r4⟩ := trodAll_cons r3
  obtain ⟨rfl, rfl, rfl⟩ := trodAll_nil r4
  obtain rfl : args = #[v0, v1, v2, v3, v4] := by cases args; simp_all
  obtain ⟨rfl, rfl⟩ := trodVars_none hV
  obtain ⟨pa, pl, pc, rfl⟩ := okWide_slice Yba.underlying22 (hval 0 22 v0 rfl rfl)
  have k0 := h0
  have lt0 : ∀ x ∈ p0, x.block < W.heap.size := by obtain ⟨m, hm⟩ := k0; exact DataW.trod_lt m _ _ _ hm
  obtain ⟨Z, rfl, hZ, hp⟩ : ∃ Z : List ByteArray, Z.length = pl ∧ (∀ s ∈ Z, s.size ≤ maxLen) ∧ ∀ i, i < Z.length → ∃ b o, pa = some ⟨b, o, none⟩ ∧ W.cell? ⟨b, o + i, none⟩ = some (.string (Z.getD i .empty)) := by
    obtain ⟨fuel, hf⟩ := h0
    rcases open_strings Yba.underlying22 Yba.underlying9 (by kernel_rfl) hf with ⟨hcs, _⟩ | ⟨x, l, c, ss, hcs, _, hl, hm, hz, _, hcell, hwz⟩
    · simp [Value.cells] at hcs
      obtain ⟨rfl, rfl, rfl⟩ := hcs
      exact ⟨[], rfl, fun s hs => by simp at hs, fun i hi => by simp at hi⟩
    · simp [Value.cells] at hcs
      obtain ⟨rfl, rfl, rfl⟩ := hcs
      have hz' : ss.length = pc := by simpa using hz
      have hlt : (ss.take pl).length = pl := by rw [List.length_take]; omega
      refine ⟨ss.take pl, hlt, fun s hs => hwz s (List.mem_of_mem_take hs), fun i hi => ?_⟩
      rw [hlt] at hi
      obtain ⟨b, o, rfl, hc⟩ := strs_at hcell (by omega)
      refine ⟨b, o, rfl, ?_⟩
      rw [hc i (by omega)]
      simp [List.getD_eq_getElem?_getD, List.getElem?_take, hi]
  obtain ⟨key, rfl, rfl, rfl, w1⟩ := open_string Yba.underlying9 (hval 1 9 v1 rfl rfl) h1
  obtain ⟨kd, rfl, rfl, rfl, w2⟩ := open_int Yba.underlying5 (hval 2 5 v2 rfl rfl) h2
  obtain ⟨line, rfl, rfl, rfl, w3⟩ := open_int Yba.underlying3 (hval 3 3 v3 rfl rfl) h3
  obtain ⟨tline, rfl, rfl, rfl, w4⟩ := open_int Yba.underlying3 (hval 4 3 v4 rfl rfl) h4
  have b2 := bounds_u8 w2
  have b3 := bounds_i64 w3
  have b4 := bounds_i64 w4
  clear hA0 hval0
  refine (walk pa pc Z key kd line tline W w1 hZ b2.1 (by omega) (by omega) (by omega) (by omega) (by omega) hp).mono fun e W' ⟨he, bel⟩ => ?_
  subst he
  exact ⟨_, rfl, _, _, _, [], _, [], hW', trodAll_mk1 (shut_bool Yba.underlying4 _), (trodAll_cons_mk (Below.trod laidOut (by kernel_rfl) (of_decide_eq_true (by kernel_rfl)) k0 bel lt0) (trodAll_cons_mk (shut_string Yba.underlying9 w1) (trodAll_cons_mk (shut_int Yba.underlying5 w2) (trodAll_cons_mk (shut_int Yba.underlying3 w3) (trodAll_cons_mk (shut_int Yba.underlying3 w4) trodAll_mk0))))), rfl, bel.frame _, fun h => by cases h⟩

theorem over : Rows.lawS4615AChildRow.holds Yba.pinned (OpenSpec.ofChange Rows.lawS4615AChildSpec) :=
  OpenClaim.holds_of_wide 3 Yba.f3 rfl rfl rfl rfl rfl rfl rfl ⟨rfl, rfl, rfl, rfl, rfl⟩ rfl rfl rfl rfl rfl (by kernel_rfl) Yba.func3 (by kernel_rfl)
    (of_decide_eq_true (by kernel_rfl)) (by unfold Func.isWrapper; first | (rw [if_pos (by decide +kernel)]; kernel_rfl) | (rw [if_neg (by decide +kernel)]; exact ⟨rfl, rfl⟩))
    (fun os started H enc _ => lifted os started H enc)

/-- ████ THE STATEMENT ████ -/
theorem proved : Rows.LawS4615AChildSaid := over
#print axioms proved
end Go.Proofs.Ybulkcqoa.lawS4615AChild
