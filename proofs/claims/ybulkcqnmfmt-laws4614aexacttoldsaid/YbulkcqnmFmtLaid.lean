import Derived.Test.YbulkcqnmFmtLaw
import Derived.Test.YbulkcqnmFmtRows
import Derived.LaidMore
import Derived.OpenVars
import Derived.OpenShut
import Derived.Deep.Slices
import Derived.WideKeyArr2
import Derived.Lib.LaidU8
import Derived.ProofKit
namespace Go.Proofs.YbulkcqnmFmt
set_option linter.unusedVariables false
set_option linter.unusedSimpArgs false
open Go.ChangeShapes Go.WideShapes Go.ChangeAt Go.RowKit
open Go.ChangeMaps (open_string shut_string)
open Go.Deep (open_slice choose_lt add_add)
open Go.WideMaps (okWide_arr)

theorem Ybaf.laidOut : laidOutB Ybaf.prog = true := by kernel_rfl
/-- The name of a listed variable. -/
def nm (i : Nat) : String := ((Rows.lawS4614AExactRow.laid[i]?).map (·.1)).getD ""

theorem Ybaf.gS : Ybaf.prog.globalNamed (nm 1) = some 0 := by kernel_rfl
theorem Ybaf.gST : (Ybaf.prog.globals[0]?).map (·.type) = some 46 := by kernel_rfl
theorem Ybaf.gZ : Ybaf.prog.globalNamed (nm 0) = some 1 := by kernel_rfl
theorem Ybaf.gZT : (Ybaf.prog.globals[1]?).map (·.type) = some 35 := by kernel_rfl
theorem Ybaf.gM : Ybaf.prog.globalNamed (nm 2) = some 2 := by kernel_rfl
theorem Ybaf.gMT : (Ybaf.prog.globals[2]?).map (·.type) = some 55 := by kernel_rfl
theorem Ybaf.cells45 : Ybaf.prog.cellsOf 45 = 1 := by kernel_rfl
theorem Ybaf.cells5 : Ybaf.prog.cellsOf 5 = 1 := by kernel_rfl
theorem Ybaf.cells9 : Ybaf.prog.cellsOf 9 = 1 := by kernel_rfl
theorem Ybaf.cells23 : Ybaf.prog.cellsOf 23 = 4 := by kernel_rfl
theorem Ybaf.cells24 : Ybaf.prog.cellsOf 24 = 1 := by kernel_rfl
theorem Ybaf.cells26 : Ybaf.prog.cellsOf 26 = 1 := by kernel_rfl
theorem Ybaf.cells28 : Ybaf.prog.cellsOf 28 = 8 := by kernel_rfl
theorem Ybaf.cells55 : Ybaf.prog.cellsOf 55 = 3 := by kernel_rfl

theorem str_is {s : ByteArray} {l : List UInt8} (h : s.data.toList = l) : s = ⟨l.toArray⟩ := by rw [← h]

theorem states_of {W : World} (h : laidMet Ybaf.prog Rows.lawS4614AExactRow.laid W) : ∃ gs os cs, States gs os cs W ∧ gs < W.heap.size := by
  obtain ⟨g, t, cs, fuel, p, hg, ht, hvar, hd⟩ := Lib.laidMet.reads h (n := nm 1) (d := Rows.laid_example_com_muster_muster_membership_states) (List.mem_of_getElem? (i := 1) rfl)
  obtain rfl := Option.some.inj (Ybaf.gS.symm.trans hg)
  obtain rfl := Option.some.inj (Ybaf.gST.symm.trans ht)
  unfold Rows.laid_example_com_muster_muster_membership_states at hd
  obtain ⟨a, cap, hcs, hcap, hel⟩ := open_row Ybaf.underlying46 Ybaf.cells45 hd
  have hv0 := World.var?_cell hg hvar 0
  have e0 : cs[0]? = some (.slice (some a) 4 cap) := by
    have : cs.toList[0]? = some (.slice (some a) 4 cap) := by rw [hcs]; rfl
    simpa using this
  rw [e0] at hv0
  have one : ∀ i l, ([.lit (.string [97, 108, 105, 118, 101]), .lit (.string [115, 117, 115, 112, 101, 99, 116]), .lit (.string [100, 101, 97, 100]), .lit (.string [108, 101, 102, 116])] : List (DataW Unit))[i]? = some (.lit (.string l)) → W.cell? (a.add i) = some (.string ⟨l.toArray⟩) := fun i l hl => by
    obtain ⟨v, n, q, hc, htr⟩ := hel i _ hl
    obtain ⟨s, hs, hy, _⟩ := DataW.trod_string Ybaf.underlying45 htr
    simp only [List.cons.injEq, and_true] at hs
    simp only [Prod.mk.injEq, DataW.lit.injEq, Lit.string.injEq] at hy
    rw [hc, hs, str_is hy.1.symm]
  have c0 := one 0 _ rfl
  obtain ⟨gs, os, sp⟩ := a
  have hsp : sp = none := by simpa [Addr.add] using World.cell?_spot c0
  subst hsp
  refine ⟨gs, os, cap, ⟨hv0, fun i hi => ?_⟩, by have := World.block_lt_of_cell? W _ c0; simpa [Addr.add] using this⟩
  rw [← Go.WideShapes.add_plain]
  rcases (show i = 0 ∨ i = 1 ∨ i = 2 ∨ i = 3 by omega) with rfl | rfl | rfl | rfl
  · exact one 0 _ rfl
  · exact one 1 _ rfl
  · exact one 2 _ rfl
  · exact one 3 _ rfl

theorem take1 {l : List Value} {i : Nat} {v : Value} (h : (l.drop i).take 1 = [v]) : l[i]? = some v := by
  have : ((l.drop i).take 1)[0]? = some v := by rw [h]; rfl
  simpa using this

theorem z4_of {W : World} (h : laidMet Ybaf.prog Rows.lawS4614AExactRow.laid W) : ∃ z, W.cell? ⟨1, 0, none⟩ = some (.pointer (some z)) := by
  obtain ⟨g, t, cs, fuel, p, hg, ht, hvar, hd⟩ := Lib.laidMet.reads h (n := nm 0) (d := Rows.laid_net_netip_z4) (List.mem_of_getElem? (i := 0) rfl)
  obtain rfl := Option.some.inj (Ybaf.gZ.symm.trans hg)
  obtain rfl := Option.some.inj (Ybaf.gZT.symm.trans ht)
  unfold Rows.laid_net_netip_z4 at hd
  have hv0 := World.var?_cell hg hvar 0
  obtain ⟨xs, n, _, hx, hlen, hl, hf⟩ := DataW.trod_struct Ybaf.underlying35 hd
  have h0 := hf 0 { name := "value", type := 33, offset := 0, embedded := false, tag := "", pkgPath := "unique", byteOffset := 0 } rfl
  match xs, hl with
  | [y], _ =>
    simp only [Prod.mk.injEq, DataW.agg.injEq, List.map_cons, List.map_nil, List.cons.injEq, and_true] at hx
    rcases DataW.trod_pointer Ybaf.underlying33 h0 with ⟨_, hy⟩ | ⟨a, cs', y', m, _, hcs, _, _, _⟩
    · rw [hy] at hx; simp at hx
    · have hc1 : Ybaf.prog.cellsOf 33 = 1 := by kernel_rfl
      rw [hc1] at hcs
      have := take1 hcs
      refine ⟨a, hv0.trans ?_⟩
      simpa using this

theorem magic_of {W : World} (h : laidMet Ybaf.prog Rows.lawS4614AExactRow.laid W) : W.cell? ⟨2, 0, none⟩ = some (.int .u8 77) ∧ W.cell? ⟨2, 1, none⟩ = some (.int .u8 115) ∧ W.cell? ⟨2, 2, none⟩ = some (.int .u8 1) := by
  obtain ⟨g, t, cs, fuel, p, hg, ht, hvar, hd⟩ := Lib.laidMet.reads h (n := nm 2) (d := Rows.laid_example_com_muster_muster_membership_magic) (List.mem_of_getElem? (i := 2) rfl)
  obtain rfl := Option.some.inj (Ybaf.gM.symm.trans hg)
  obtain rfl := Option.some.inj (Ybaf.gMT.symm.trans ht)
  unfold Rows.laid_example_com_muster_muster_membership_magic at hd
  have hv := World.var?_cell hg hvar
  obtain ⟨xs, m, _, hx, hlen, hl, hf⟩ := DataW.trod_array Ybaf.underlying55 hd
  rw [Ybaf.cells5] at hf
  have h0 := hf 0 (by omega)
  have h1 := hf 1 (by omega)
  have h2 := hf 2 (by omega)
  match xs, hl with
  | [y0, y1, y2], _ =>
    simp only [Prod.mk.injEq, DataW.agg.injEq, List.map_cons, List.map_nil, List.cons.injEq, and_true] at hx
    obtain ⟨⟨e0, e1, e2⟩, _⟩ := hx
    obtain ⟨n0, c0, rfl, _⟩ := DataW.trod_int Ybaf.underlying5 h0
    obtain ⟨n1, c1, rfl, _⟩ := DataW.trod_int Ybaf.underlying5 h1
    obtain ⟨n2, c2, rfl, _⟩ := DataW.trod_int Ybaf.underlying5 h2
    simp at e0 e1 e2
    subst e0 e1 e2
    exact ⟨(hv 0).trans (by simpa using take1 c0), (hv 1).trans (by simpa using take1 c1), (hv 2).trans (by simpa using take1 c2)⟩

section
variable {H : Type} {enc : TypeId × Value → H}

theorem raw_at {W : World} {sp : Nat → Bool} {held : Bool} {n : Nat} {cs : List Value} {x : DataW H × List MemPlace} (h : DataW.trod enc Ybaf.prog W 0 sp held n 28 cs = some x) : ∃ r : Raw, r.ok ∧ cs = cellsR r := by
  obtain ⟨xs, m, _, rfl, hlen, hl, hf⟩ := DataW.trod_struct Ybaf.underlying28 h
  rw [Ybaf.cells28] at hlen
  match cs, hlen with
  | [c0, c1, c2, c3, c4, c5, c6, c7], _ =>
    have f0 := hf 0 { name := "Name", type := 9, offset := 0, embedded := false, tag := "", pkgPath := "", byteOffset := 0 } rfl
    have f1 := hf 1 { name := "IP", type := 23, offset := 1, embedded := false, tag := "", pkgPath := "", byteOffset := 16 } rfl
    have f2 := hf 2 { name := "Port", type := 24, offset := 5, embedded := false, tag := "", pkgPath := "", byteOffset := 20 } rfl
    have f3 := hf 3 { name := "State", type := 5, offset := 6, embedded := false, tag := "", pkgPath := "", byteOffset := 22 } rfl
    have f4 := hf 4 { name := "Inc", type := 26, offset := 7, embedded := false, tag := "", pkgPath := "", byteOffset := 24 } rfl
    simp only [Ybaf.cells9, Ybaf.cells23, Ybaf.cells24, Ybaf.cells5, Ybaf.cells26, List.drop_zero, List.drop_succ_cons, List.take_succ_cons, List.take_zero] at f0 f1 f2 f3 f4
    match xs, hl with
    | [y0, y1, y2, y3, y4], _ =>
      obtain ⟨s, e0, _, _⟩ := DataW.trod_string Ybaf.underlying9 f0
      obtain ⟨ys, k, _, _, _, hyl, hyf⟩ := DataW.trod_array Ybaf.underlying23 f1
      obtain ⟨p, e5, _, w5⟩ := DataW.trod_int Ybaf.underlying24 f2
      obtain ⟨st, e6, _, w6⟩ := DataW.trod_int Ybaf.underlying5 f3
      obtain ⟨inc, e7, _, w7⟩ := DataW.trod_int Ybaf.underlying26 f4
      have g0 := hyf 0 (by omega)
      have g1 := hyf 1 (by omega)
      have g2 := hyf 2 (by omega)
      have g3 := hyf 3 (by omega)
      simp only [Ybaf.cells5, Nat.zero_mul, Nat.mul_one, List.drop_zero, List.drop_succ_cons, List.take_succ_cons, List.take_zero] at g0 g1 g2 g3
      match ys, hyl with
      | [z0, z1, z2, z3], _ =>
        obtain ⟨b0, i0, _, u0⟩ := DataW.trod_int Ybaf.underlying5 g0
        obtain ⟨b1, i1, _, u1⟩ := DataW.trod_int Ybaf.underlying5 g1
        obtain ⟨b2, i2, _, u2⟩ := DataW.trod_int Ybaf.underlying5 g2
        obtain ⟨b3, i3, _, u3⟩ := DataW.trod_int Ybaf.underlying5 g3
        simp only [List.cons.injEq, and_true] at e0 e5 e6 e7 i0 i1 i2 i3
        subst e0 e5 e6 e7 i0 i1 i2 i3
        have w5 := bounds_u16 w5
        have w6 := bounds_u8 w6
        have w7 := bounds_u64 w7
        have u0 := bounds_u8 u0
        have u1 := bounds_u8 u1
        have u2 := bounds_u8 u2
        have u3 := bounds_u8 u3
        have v0 : byte b0 := ⟨u0.1, by omega⟩
        have v1 : byte b1 := ⟨u1.1, by omega⟩
        have v2 : byte b2 := ⟨u2.1, by omega⟩
        have v3 : byte b3 := ⟨u3.1, by omega⟩
        refine ⟨⟨s, b0, b1, b2, b3, p, st.toNat, inc⟩, ⟨v0, v1, v2, v3, w5.1, by show p < _; omega, by show st.toNat < _; omega, w7.1, by show inc < _; omega⟩, ?_⟩
        simp [cellsR, Int.toNat_of_nonneg w6.1]

theorem raws_of {W : World} {a : Option Addr} {len cap : Nat} {d : DataW H} {ps : List MemPlace} (h : DataW.Trod enc Ybaf.prog W 0 (fun _ => true) true 25 (.slice a len cap) d ps) :
    ∃ Z : List Raw, Z.length = len ∧ IsRaws a Z W ∧ ∀ r ∈ Z, r.ok := by
  obtain ⟨fuel, hf⟩ := h
  rcases open_slice Ybaf.underlying25 hf with ⟨hcs, _⟩ | ⟨x, l, c, m, n, D, Pl, hcs, _, hl, hm, hmm, _, hel⟩
  · simp [Value.cells] at hcs
    obtain ⟨rfl, rfl, rfl⟩ := hcs
    exact ⟨[], rfl, fun i hi => by simp at hi, by simp⟩
  · simp [Value.cells] at hcs
    obtain ⟨rfl, rfl, rfl⟩ := hcs
    rw [Ybaf.cells28] at hel
    have hlm : len ≤ m := by rw [hmm]; split <;> omega
    haveI : Inhabited Raw := ⟨Raw.none⟩
    obtain ⟨R, hR⟩ := choose_lt (α := Raw) (n := len) (p := fun i r => r.ok ∧ W.cells? 0 (x.add (i * 8)) 8 = some (cellsR r)) (fun i hi => by
      obtain ⟨cs', h1, h2⟩ := hel i (by omega)
      obtain ⟨r, hr, rfl⟩ := raw_at h2
      exact ⟨r, hr, h1⟩)
    refine ⟨(List.range len).map R, by simp, fun i hi => ?_, fun r hr => ?_⟩
    · simp at hi
      have hc := (World.cells?_some (hR i hi).2).2.2
      obtain ⟨b, o, spt⟩ := x
      have h0 := hc 0 (by omega)
      have hsp : spt = none := by
        have : W.cell? (((⟨b, o, spt⟩ : Addr).add (0 * 8)).add 0) = some (.string (R 0).name) := (World.cells?_some (hR 0 (by omega)).2).2.2 0 (by omega)
        have := World.cell?_spot this
        simpa [Addr.add] using this
      subst hsp
      refine ⟨b, o, rfl, ?_, fun j hj => ?_⟩
      · have : W.cell? (((⟨b, o, none⟩ : Addr).add (i * 8)).add 0) = some (.string (R i).name) := h0
        rw [add_add, Addr.add_lit] at this
        exact World.block_lt_of_cell? W _ this
      · have h1 := hc j hj
        rw [add_add, Addr.add_lit] at h1
        rw [h1]
        simp [hi]
    · simp at hr
      obtain ⟨i, hi, rfl⟩ := hr
      exact (hR i hi).1

theorem tip_of {W : World} {b0 : Nat} {v : Value} {d : DataW H} {ps : List MemPlace} (hval : Value.okWide Ybaf.prog W .any b0 23 v) (h : DataW.Trod enc Ybaf.prog W 0 (fun _ => true) true 23 v d ps) :
    ∃ t0 t1 t2 t3, v = .agg #[.int .u8 t0, .int .u8 t1, .int .u8 t2, .int .u8 t3] ∧ byte t0 ∧ byte t1 ∧ byte t2 ∧ byte t3 := by
  obtain ⟨xs, rfl, hsz⟩ := okWide_arr (P := Ybaf.prog) (k := 23) (e := 5) (n := 4) ⟨Ybaf.underlying23, by kernel_rfl, Ybaf.cells5, Ybaf.cells23⟩ hval
  obtain ⟨fuel, hf⟩ := h
  obtain ⟨ys, k, _, _, _, hyl, hyf⟩ := DataW.trod_array Ybaf.underlying23 hf
  obtain ⟨l⟩ := xs
  have hsz' : l.length = 4 := by simpa using hsz
  simp only [Value.cells] at hyf
  match l, hsz' with
  | [c1, c2, c3, c4], _ =>
    have g0 := hyf 0 (by omega)
    have g1 := hyf 1 (by omega)
    have g2 := hyf 2 (by omega)
    have g3 := hyf 3 (by omega)
    simp only [Ybaf.cells5, Nat.zero_mul, Nat.mul_one, List.drop_zero, List.drop_succ_cons, List.take_succ_cons, List.take_zero] at g0 g1 g2 g3
    match ys, hyl with
    | [z0, z1, z2, z3], _ =>
      obtain ⟨b0, i0, _, u0⟩ := DataW.trod_int Ybaf.underlying5 g0
      obtain ⟨b1, i1, _, u1⟩ := DataW.trod_int Ybaf.underlying5 g1
      obtain ⟨b2, i2, _, u2⟩ := DataW.trod_int Ybaf.underlying5 g2
      obtain ⟨b3, i3, _, u3⟩ := DataW.trod_int Ybaf.underlying5 g3
      simp only [List.cons.injEq, and_true] at i0 i1 i2 i3
      subst i0 i1 i2 i3
      have u0 := bounds_u8 u0
      have u1 := bounds_u8 u1
      have u2 := bounds_u8 u2
      have u3 := bounds_u8 u3
      exact ⟨b0, b1, b2, b3, rfl, ⟨u0.1, by omega⟩, ⟨u1.1, by omega⟩, ⟨u2.1, by omega⟩, ⟨u3.1, by omega⟩⟩
end
end Go.Proofs.YbulkcqnmFmt
