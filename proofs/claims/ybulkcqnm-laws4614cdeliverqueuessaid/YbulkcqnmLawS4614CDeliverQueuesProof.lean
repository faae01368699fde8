/-
  THE PROOF OF 'Rows.LawS4614CDeliverQueuesSaid'. The walk: YbulkcqnmLaw.lean (walk_main); the communications: YbulkcqnmComm.lean. The row's step after the guide's own way.
-/
import Derived.Test.YbulkcqnmRows
import Derived.Test.YbulkcqnmLaw
import Derived.ProofKit
import Derived.OpenShut
import Derived.ShutString
import Derived.ChangeOld
import Derived.Below
import Derived.SliceStrings
namespace Go.Proofs.Ybulkcqnm.lawS4614CDeliverQueues
open Go.ChangeShapes Go.WideShapes Go.ChangeAt Go.RowKit
open Go.ChangeMaps (open_string shut_string)
set_option linter.unusedVariables false
set_option linter.unusedSimpArgs false

theorem own : ownKnob Yba.prog.godebug = none := by kernel_rfl
theorem laidOut : laidOutB Yba.prog = true := by kernel_rfl

theorem strs_at {w : World} {a : Addr} {ss : List ByteArray} (h : ∀ i, i < ss.length → w.cell? (a.add i) = some (.string (ss.getD i .empty))) (hp : 0 < ss.length) :
    ∃ b off, a = ⟨b, off, none⟩ ∧ ∀ j, j < ss.length → w.cell? ⟨b, off + j, none⟩ = some (.string (ss.getD j .empty)) := by
  obtain ⟨b, off, spot⟩ := a
  have hspot : spot = none := by simpa [Addr.add] using World.cell?_spot (h 0 hp)
  subst hspot
  exact ⟨b, off, rfl, fun j hj => by rw [← Go.WideShapes.add_plain]; exact h j hj⟩

theorem walk (fr tp : ByteArray) (da : Option Addr) (dl dc : Nat) (zd : Nat → Int) (pa : Option Addr) (pc : Nat) (Z : List ByteArray) (sp bz : Int) (w : World)
    (hs0 : 0 ≤ sp) (hs1 : sp < 256) (hb0 : 0 ≤ bz) (hb1 : bz < 256) (hdl : dl ≤ 9223372036854775807)
    (hd : ∀ i, i < dl → ∃ b o, da = some ⟨b, o, none⟩ ∧ w.cell? ⟨b, o + i, none⟩ = some (.int .u8 (zd i)))
    (hp : ∀ i, i < Z.length → ∃ b o, pa = some ⟨b, o, none⟩ ∧ w.cell? ⟨b, o + i, none⟩ = some (.string (Z.getD i .empty))) :
    Calls Yba.prog 3 #[.string fr, .string tp, .slice da dl dc, .slice pa Z.length pc, .int .u8 sp, .int .u8 bz] w fun e w' => e = .returned (.bool true) ∧ Below w.heap.size w w' := by
  by_cases hn : Z.length ≤ 1024
  · exact walk_main fr tp da dl dc zd pa pc Z sp bz w hn hs0 hs1 hb0 hb1 hdl hd hp
  · clear hd hp
    go_enter Yba.func3, Yba.ntmps3
    go_wp2
    go_ret
    exact ⟨rfl, Below.refl _ _⟩

set_option maxRecDepth 100000 in
theorem lifted (os : Os) (started : os.Started) (H : Type) (enc : TypeId × Value → H) :
    ReturnsInHanded {} Yba.checked os 3 .any (Rows.lawS4614CDeliverQueuesSpec.pre6 enc Yba.prog Yba.f3 Rows.lawS4614CDeliverQueuesRow.domain false) (Rows.lawS4614CDeliverQueuesSpec.post enc Yba.prog Yba.f3 false true false false) := by
  refine returnsInHanded_of_change (C := Yba.checked) own started (by kernel_rfl) Yba.func3
    (ChangeSpec.witness6 (enc := enc) (C := Yba.checked) false ⟨#[], #[.string ⟨#[]⟩, .string ⟨#[]⟩, .slice none 0 0, .slice none 0 0, .int .u8 0, .int .u8 0], []⟩ 8 (by kernel_rfl) (by kernel_rfl) (by kernel_rfl) (by kernel_rfl)) ?_
  intro W base args ds gs before hval0 hW hcnd _
  have hval : ∀ (j : Nat) t v, Yba.f3.params[j]? = some t → args[j]? = some v → Value.okWide Yba.prog W .any base t v := hval0
  have hW' := hW
  obtain ⟨p, q, hA0, hV, rfl, hfz, hnd⟩ := hW
  have hA : DataW.TrodAll enc Yba.prog W 0 (fun _ => true) true Yba.f3.params.toList args.toList ds p := hA0
  rw [Yba.params3] at hA hval
  obtain ⟨v0, vs0, d0, ds0, p0, q0, hargs, rfl, rfl, h0, r0⟩ := trodAll_cons hA
  obtain ⟨v1, vs1, d1, ds1, p1, q1, rfl, rfl, rfl, h1, r1⟩ := trodAll_cons r0
  obtain ⟨v2, vs2, d2, ds2, p2, q2, rfl, rfl, rfl, h2, r2⟩ := trodAll_cons r1
  obtain ⟨v3, vs3, d3, ds3, p3, q3, rfl, rfl, rfl, h3, r3⟩ := trodAll_cons r2
  obtain ⟨v4, vs4, d4, ds4, p4, q4, rfl, rfl, rfl, h4, r4⟩ := trodAll_cons r3
  obtain ⟨v5, vs5, d5, ds5, p5, q5, rfl, rfl, rfl, h5, r5⟩ := trodAll_cons r4
  obtain ⟨rfl, rfl, rfl⟩ := trodAll_nil r5
  obtain rfl : args = #[v0, v1, v2, v3, v4, v5] := by cases args; simp_all
  obtain ⟨rfl, rfl⟩ := trodVars_none hV
  obtain ⟨fr, rfl, rfl, rfl, w0⟩ := open_string Yba.underlying9 (hval 0 9 v0 rfl rfl) h0
  obtain ⟨tp, rfl, rfl, rfl, w1⟩ := open_string Yba.underlying9 (hval 1 9 v1 rfl rfl) h1
  obtain ⟨da, dl, dc, rfl⟩ := okWide_slice Yba.underlying22 (hval 2 22 v2 rfl rfl)
  have k2 := h2
  have lt2 : ∀ x ∈ p2, x.block < W.heap.size := by obtain ⟨m, hm⟩ := k2; exact DataW.trod_lt m _ _ _ hm
  obtain ⟨zd, hdl, hd⟩ : ∃ zd : Nat → Int, dl ≤ 9223372036854775807 ∧ ∀ i, i < dl → ∃ b o, da = some ⟨b, o, none⟩ ∧ W.cell? ⟨b, o + i, none⟩ = some (.int .u8 (zd i)) := by
    obtain ⟨fuel, hf⟩ := h2
    rcases open_ints Yba.underlying22 Yba.underlying5 (by kernel_rfl) hf with ⟨hcs, _⟩ | ⟨x, l, c, zs, hcs, _, hl, hm, hz, _, hcell, hwz⟩
    · simp [Value.cells] at hcs
      obtain ⟨rfl, rfl, rfl⟩ := hcs
      exact ⟨fun _ => 0, by omega, fun i hi => by omega⟩
    · simp [Value.cells] at hcs
      obtain ⟨rfl, rfl, rfl⟩ := hcs
      refine ⟨fun i => zs.getD i 0, by unfold maxLen at hm; omega, fun i hi => ?_⟩
      have hz' : zs.length = dc := by simpa using hz
      obtain ⟨b, o, rfl, hc⟩ := ints_at hcell (by omega)
      exact ⟨b, o, rfl, hc i (by omega)⟩
  obtain ⟨pa, pl, pc, rfl⟩ := okWide_slice Yba.underlying23 (hval 3 23 v3 rfl rfl)
  have k3 := h3
  have lt3 : ∀ x ∈ p3, x.block < W.heap.size := by obtain ⟨m, hm⟩ := k3; exact DataW.trod_lt m _ _ _ hm
  obtain ⟨Z, rfl, hp⟩ : ∃ Z : List ByteArray, Z.length = pl ∧ ∀ i, i < Z.length → ∃ b o, pa = some ⟨b, o, none⟩ ∧ W.cell? ⟨b, o + i, none⟩ = some (.string (Z.getD i .empty)) := by
    obtain ⟨fuel, hf⟩ := h3
    rcases open_strings Yba.underlying23 Yba.underlying9 (by kernel_rfl) hf with ⟨hcs, _⟩ | ⟨x, l, c, ss, hcs, _, hl, hm, hz, _, hcell, hwz⟩
    · simp [Value.cells] at hcs
      obtain ⟨rfl, rfl, rfl⟩ := hcs
      exact ⟨[], rfl, fun i hi => by simp at hi⟩
    · simp [Value.cells] at hcs
      obtain ⟨rfl, rfl, rfl⟩ := hcs
      have hz' : ss.length = pc := by simpa using hz
      have hlt : (ss.take pl).length = pl := by rw [List.length_take]; omega
      refine ⟨ss.take pl, hlt, fun i hi => ?_⟩
      rw [hlt] at hi
      obtain ⟨b, o, rfl, hc⟩ := strs_at hcell (by omega)
      refine ⟨b, o, rfl, ?_⟩
      rw [hc i (by omega)]
      simp [List.getD_eq_getElem?_getD, List.getElem?_take, hi]
  obtain ⟨sp, rfl, rfl, rfl, w4⟩ := open_int Yba.underlying5 (hval 4 5 v4 rfl rfl) h4
  obtain ⟨bz, rfl, rfl, rfl, w5⟩ := open_int Yba.underlying5 (hval 5 5 v5 rfl rfl) h5
  have b4 := bounds_u8 w4
  have b5 := bounds_u8 w5
  clear hA0 hval0
  refine (walk fr tp da dl dc zd pa pc Z sp bz W b4.1 (by omega) b5.1 (by omega) hdl hd hp).mono fun e W' ⟨he, bel⟩ => ?_
  subst he
  exact ⟨_, rfl, _, _, _, [], _, [], hW', trodAll_mk1 (shut_bool Yba.underlying4 _), (trodAll_cons_mk (shut_string Yba.underlying9 w0) (trodAll_cons_mk (shut_string Yba.underlying9 w1) (trodAll_cons_mk (Below.trod laidOut (by kernel_rfl) (of_decide_eq_true (by kernel_rfl)) k2 bel lt2) (trodAll_cons_mk (Below.trod laidOut (by kernel_rfl) (of_decide_eq_true (by kernel_rfl)) k3 bel lt3) (trodAll_cons_mk (shut_int Yba.underlying5 w4) (trodAll_cons_mk (shut_int Yba.underlying5 w5) trodAll_mk0)))))), rfl, bel.frame _, fun h => by cases h⟩

theorem over : Rows.lawS4614CDeliverQueuesRow.holds Yba.pinned (OpenSpec.ofChange Rows.lawS4614CDeliverQueuesSpec) :=
  OpenClaim.holds_of_wide 3 Yba.f3 rfl rfl rfl rfl rfl rfl rfl ⟨rfl, rfl, rfl, rfl, rfl⟩ rfl rfl rfl rfl rfl (by kernel_rfl) Yba.func3 (by kernel_rfl)
    (of_decide_eq_true (by kernel_rfl)) (by unfold Func.isWrapper; first | (rw [if_pos (by decide +kernel)]; kernel_rfl) | (rw [if_neg (by decide +kernel)]; exact ⟨rfl, rfl⟩))
    (fun os started H enc _ => lifted os started H enc)

/-- ████ THE STATEMENT ████ -/
theorem proved : Rows.LawS4614CDeliverQueuesSaid := over
#print axioms proved
end Go.Proofs.Ybulkcqnm.lawS4614CDeliverQueues
