/-
  THE PROOF OF 'Rows.LawS4614AExactToldSaid'. The walk: YbulkcqnmFmtLaw.lean (walk_main); here: the wide inputs (a group over 1024 bytes, over 300 entries), the row's step, the card.
-/
import Derived.Test.YbulkcqnmFmtLaid
import Derived.Test.YbulkcqnmFmtTie
import Derived.Test.YbulkcqnmFmtCards
import Derived.Stop.JoinedAt
import Derived.Stop.JoinedTold
import Derived.Deep.DeepWitnessRef
import Derived.SevenTiedAt
import Derived.ShutString
import Derived.Lay
import Derived.MakeChecks
namespace Go.Proofs.YbulkcqnmFmt.lawS4614AExact
open Go.ChangeShapes Go.WideShapes Go.ChangeAt Go.RowKit
open Go.ChangeMaps (open_string shut_string)
open Go.Extern.Stop Go.Stop Go.Extern
set_option linter.unusedVariables false
set_option linter.unusedSimpArgs false

theorem own : ownKnob Ybaf.prog.godebug = none := by kernel_rfl
theorem stops : Ybaf.pinned.checked.prog.stops = ["fmt.Sprintf"] := by kernel_rfl
theorem stopKnobs : Ybaf.pinned.checked.prog.stopKnobs = [] := by kernel_rfl
theorem quiet (os : Os) : Stop.quiet Ybaf.pinned.checked.prog os := by
  intro k hk
  rw [stopKnobs] at hk
  cases hk

set_option maxRecDepth 20000 in
theorem walk_wide (k seq : Int) (g : ByteArray) (t0 t1 t2 t3 tp : Int) (va : Option Addr) (n vc : Nat) (w : World) (h : ¬ (g.size ≤ 1024 ∧ n ≤ 300)) :
    Calls Ybaf.prog 3 #[.int .u8 k, .int .u32 seq, .string g, .agg #[.int .u8 t0, .int .u8 t1, .int .u8 t2, .int .u8 t3], .int .u16 tp, .slice va n vc] w fun r w' => r = .returned (.bool true) ∧ Below w.heap.size w w' := by
  have B0 : Below w.heap.size w (w.alloc (.cells #[.int .u8 t0, .int .u8 t1, .int .u8 t2, .int .u8 t3] 23)) := (Below.refl _ _).alloc (Nat.le_refl _) _
  by_cases hg : g.size ≤ 1024
  · have hn : ¬ n ≤ 300 := fun hn => h ⟨hg, hn⟩
    go_enter Ybaf.func3, Ybaf.ntmps3
    go_wp2
    go_ret
    exact ⟨rfl, B0⟩
  · clear h
    go_enter Ybaf.func3, Ybaf.ntmps3
    go_wp2
    go_ret
    exact ⟨rfl, B0⟩

theorem met (os : Os) (args : Array Value) : laidMetH Ybaf.prog Rows.lawS4614AExactRow.laid ((World.laidAll Ybaf.prog os Rows.lawS4614AExactRow.laid).forCall (fun _ _ => 0) ⟨#[], args, []⟩).memory := by
  rw [MakeChecks.laidMetH_plain _ _ _ (by kernel_rfl)]; exact laidMet_laidAll _ (by kernel_rfl) (by kernel_rfl)

set_option maxRecDepth 100000 in
theorem lifted (os : Os) (started : os.Started) (H : Type) (enc : TypeId × Value → H) :
    ReturnsInTold none {} Ybaf.checked os 3 .any Input.okWide ((OpenSpec.ofChange Rows.lawS4614AExactSpec).preRow enc Ybaf.prog Ybaf.f3 Rows.lawS4614AExactRow.domain false Rows.lawS4614AExactRow.laid) (fun F => ((OpenSpec.ofChange Rows.lawS4614AExactSpec).at F).post enc Ybaf.prog Ybaf.f3 false true false false) (aloneAtReturn Ybaf.prog) nothingAlways := by
  refine returnsInTold_of_row (C := Ybaf.checked) (s := OpenSpec.ofChange Rows.lawS4614AExactSpec) (by kernel_rfl) own started (by kernel_rfl) Ybaf.func3
    (OpenSpec.witness_stopped_atRef (enc := enc) (C := Ybaf.checked) false (World.laidAll Ybaf.prog os Rows.lawS4614AExactRow.laid) #[.int .u8 0, .int .u32 0, .string ⟨#[]⟩, .agg #[.int .u8 0, .int .u8 0, .int .u8 0, .int .u8 0], .int .u16 0, .slice none 0 0] (World.laidAll_os _ _ _) (by kernel_rfl) (by kernel_rfl) (by kernel_rfl)
      (OpenSpec.preRow_of_B rfl 8 (by kernel_rfl) (by kernel_rfl) (met os _))) ?_
  intro F W base args ds gs before _ hF hval0 hW _ _ _ hL _
  have hval : ∀ (j : Nat) t v, Ybaf.f3.params[j]? = some t → args[j]? = some v → Value.okWide Ybaf.prog W .any base t v := hval0
  have hW' := hW
  obtain ⟨p, q, hA0, hV, rfl, hfz, hnd⟩ := hW
  have hA : DataW.TrodAll enc Ybaf.prog W 0 (fun _ => true) true Ybaf.f3.params.toList args.toList ds p := hA0
  rw [Ybaf.params3] at hA hval
  obtain ⟨v0, vs0, d0, ds0, p0, q0, hargs, rfl, rfl, h0, r0⟩ := trodAll_cons hA
  obtain ⟨v1, vs1, d1, ds1, p1, q1, rfl, rfl, rfl, h1, r1⟩ := trodAll_cons r0
  obtain ⟨v2, vs2, d2, ds2, p2, q2, rfl, rfl, rfl, h2, r2⟩ := trodAll_cons r1
  obtain ⟨v3, vs3, d3, ds3, p3, q3, rfl, rfl, rfl, h3, r3⟩ := trodAll_cons r2
  obtain ⟨v4, vs4, d4, ds4, p4, q4, rfl, rfl, rfl, h4, r4⟩ := trodAll_cons r3
  obtain ⟨v5, vs5, d5, ds5, p5, q5, rfl, rfl, rfl, h5, r5⟩ := trodAll_cons r4
  obtain ⟨rfl, rfl, rfl⟩ := trodAll_nil r5
  obtain rfl : args = #[v0, v1, v2, v3, v4, v5] := by cases args; simp_all
  obtain ⟨a0, rfl, rfl, rfl, w0⟩ := open_int Ybaf.underlying5 (hval 0 5 v0 rfl rfl) h0
  obtain ⟨a1, rfl, rfl, rfl, w1⟩ := open_int Ybaf.underlying22 (hval 1 22 v1 rfl rfl) h1
  obtain ⟨g, rfl, rfl, rfl, w2⟩ := open_string Ybaf.underlying9 (hval 2 9 v2 rfl rfl) h2
  have k3 := h3
  have lt3 : ∀ x ∈ p3, x.block < W.heap.size := by obtain ⟨m, hm⟩ := k3; exact DataW.trod_lt m _ _ _ hm
  obtain ⟨t0, t1, t2, t3, rfl, bt0, bt1, bt2, bt3⟩ := tip_of (hval 3 23 v3 rfl rfl) h3
  obtain ⟨a4, rfl, rfl, rfl, w4⟩ := open_int Ybaf.underlying24 (hval 4 24 v4 rfl rfl) h4
  have k5 := h5
  have lt5 : ∀ x ∈ p5, x.block < W.heap.size := by obtain ⟨m, hm⟩ := k5; exact DataW.trod_lt m _ _ _ hm
  obtain ⟨va, len, cap, rfl⟩ := okWide_slice Ybaf.underlying25 (hval 5 25 v5 rfl rfl)
  obtain ⟨Z, rfl, hZ, hZok⟩ := raws_of h5
  clear hA0 hval0
  have hL' : laidMet Ybaf.prog Rows.lawS4614AExactRow.laid W := by rw [← MakeChecks.laidMetH_plain _ _ _ (by kernel_rfl)]; exact hL
  obtain ⟨gs', os', cs', hst, hgs⟩ := states_of hL'
  obtain ⟨z, hz⟩ := z4_of hL'
  obtain ⟨m0, m1, m2⟩ := magic_of hL'
  have b0 := bounds_u8 w0
  have b1 := bounds_u32 w1
  have b4 := bounds_u16 w4
  have key : Calls Ybaf.prog 3 #[.int .u8 a0, .int .u32 a1, .string g, .agg #[.int .u8 t0, .int .u8 t1, .int .u8 t2, .int .u8 t3], .int .u16 a4, .slice va Z.length cap] W fun r w' => r = .returned (.bool true) ∧ Below W.heap.size W w' := by
    by_cases hs : g.size ≤ 1024 ∧ Z.length ≤ 300
    · exact walk_main a0 a1 g t0 t1 t2 t3 a4 va cap Z z gs' os' cs' W b0.1 (by omega) b1.1 (by omega) hs.1 bt0 bt1 bt2 bt3 b4.1 (by omega) hs.2 hZok hZ hz hst hgs m0 m1 m2
    · exact walk_wide a0 a1 g t0 t1 t2 t3 a4 va Z.length cap W hs
  refine key.mono fun e W' ⟨he, bel⟩ => ?_
  subst he
  have hVars := Below.trodVars Ybaf.laidOut bel (ns := (OpenSpec.ofChange Rows.lawS4614AExactSpec).vars) (by kernel_rfl) hV
  obtain ⟨dg0, dg1, rfl⟩ : ∃ dg0 dg1, gs = [dg0, dg1] := by
    obtain ⟨_, _, _, _, d, _, _, _, _, _, d', _, e, _⟩ := trodVars_two hV
    exact ⟨d, d', e⟩
  exact ⟨_, rfl, _, _, _, [], _, _, hW', trodAll_mk1 (shut_bool Ybaf.underlying4 _), (trodAll_cons_mk (shut_int Ybaf.underlying5 w0) (trodAll_cons_mk (shut_int Ybaf.underlying22 w1) (trodAll_cons_mk (shut_string Ybaf.underlying9 w2) (trodAll_cons_mk (Below.trod Ybaf.laidOut (by kernel_rfl) (of_decide_eq_true (by kernel_rfl)) k3 bel lt3)
    (trodAll_cons_mk (shut_int Ybaf.underlying24 w4) (trodAll_cons_mk (Below.trod Ybaf.laidOut (by kernel_rfl) (of_decide_eq_true (by kernel_rfl)) k5 bel lt5) trodAll_mk0)))))), hVars, bel.frame _, fun h => by cases h⟩

/-- ████ THE STATEMENT ████ -/
theorem proved : Rows.LawS4614AExactToldSaid :=
  Claim7.holds_of_told_tied_any_at .later 3 Ybaf.f3 "fmt.Sprintf" [] [] _ _ _ _ _ (by kernel_rfl) rfl rfl rfl Ybaf.laidOut (by kernel_rfl) rfl ⟨rfl, rfl, rfl, rfl, rfl, rfl, rfl⟩ rfl rfl (by kernel_rfl) (by kernel_rfl) Ybaf.func3 (by kernel_rfl)
    (of_decide_eq_true (by kernel_rfl)) (of_decide_eq_true (by kernel_rfl)) stops.symm rfl stopKnobs.symm (by kernel_rfl)
    (by kernel_rfl) (by kernel_rfl) (by kernel_rfl) (by kernel_rfl) (by kernel_rfl) (by kernel_rfl) (by kernel_rfl) (by kernel_rfl) (by kernel_rfl) rfl (by kernel_rfl) rfl rfl
    rfl rfl
    rfl (by kernel_rfl) (by kernel_rfl) (by kernel_rfl) (by decide) (by kernel_rfl) lawS4614AExact_row_tie
    (OpenClaim.moreEntering_of (by kernel_rfl) (by kernel_rfl) (by kernel_rfl) (by kernel_rfl) (by kernel_rfl) (by kernel_rfl) (by kernel_rfl) (by kernel_rfl) (by kernel_rfl) (by kernel_rfl))
    ⟨_, WideRow.started_initial, quiet _⟩
    (fun os started _ H enc _ => lifted os started H enc)
#print axioms proved
end Go.Proofs.YbulkcqnmFmt.lawS4614AExact
