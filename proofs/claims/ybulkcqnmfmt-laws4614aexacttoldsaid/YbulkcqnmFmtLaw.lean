import Derived.Test.YbulkcqnmFmtEq
namespace Go.Proofs.YbulkcqnmFmt
set_option linter.unusedVariables false
set_option linter.unusedSimpArgs false
open Go.RowKit

/-- One entry as the law is handed it. -/
structure Raw where
  name : ByteArray
  b0 : Int
  b1 : Int
  b2 : Int
  b3 : Int
  port : Int
  st : Nat
  inc : Int

def Raw.none : Raw := ⟨.empty, 0, 0, 0, 0, 0, 0, 0⟩
def cellsR (r : Raw) : List Value := [.string r.name, .int .u8 r.b0, .int .u8 r.b1, .int .u8 r.b2, .int .u8 r.b3, .int .u16 r.port, .int .u8 r.st, .int .u64 r.inc]
def byte (b : Int) : Prop := 0 ≤ b ∧ b < 256
def Raw.ok (r : Raw) : Prop := byte r.b0 ∧ byte r.b1 ∧ byte r.b2 ∧ byte r.b3 ∧ 0 ≤ r.port ∧ r.port < 65536 ∧ r.st < 256 ∧ 0 ≤ r.inc ∧ r.inc < 18446744073709551616
def Raw.ent (r : Raw) : Ent := ⟨r.name, lo4 r.b0 r.b1 r.b2 r.b3, r.port, r.st % 4, r.inc⟩
def entCells (z : Addr) (E : List Ent) : List Value := E.flatMap (cellsE z)

theorem entCells_length (z : Addr) (E : List Ent) : (entCells z E).length = E.length * 7 := by
  induction E with
  | nil => rfl
  | cons e E ih =>
    show (cellsE z e ++ entCells z E).length = _
    rw [List.length_append, ih]; simp [cellsE]; omega
theorem entCells_at (z : Addr) (E : List Ent) (i j : Nat) (hi : i < E.length) (hj : j < 7) : (entCells z E)[i * 7 + j]? = (cellsE z (E.getD i ⟨.empty, 0, 0, 0, 0⟩))[j]? := by
  induction E generalizing i with
  | nil => simp at hi
  | cons e E ih =>
    show (cellsE z e ++ entCells z E)[i * 7 + j]? = _
    cases i with
    | zero =>
      rw [List.getElem?_append_left (by simp [cellsE]; omega)]; simp
    | succ i =>
      rw [List.getElem?_append_right (by simp [cellsE]; omega)]
      have : (i + 1) * 7 + j - (cellsE z e).length = i * 7 + j := by simp [cellsE]; omega
      rw [this, ih i (by simpa using hi)]; simp
theorem entCells_snoc (z : Addr) (E : List Ent) (e : Ent) : entCells z (E ++ [e]) = entCells z E ++ cellsE z e := by simp [entCells]

theorem ip_bytes (b0 b1 b2 b3 : Int) (h0 : byte b0) (h1 : byte b1) (h2 : byte b2) (h3 : byte b3) : be (lo4 b0 b1 b2 b3 % 4294967296) 4 = [b0, b1, b2, b3] := by
  unfold byte at h0 h1 h2 h3
  simp [be, lo4]
  omega
theorem lo4_bounds (b0 b1 b2 b3 : Int) (h0 : byte b0) (h1 : byte b1) (h2 : byte b2) (h3 : byte b3) : 0 ≤ lo4 b0 b1 b2 b3 ∧ lo4 b0 b1 b2 b3 < 18446744073709551616 := by
  unfold byte at h0 h1 h2 h3
  unfold lo4
  omega
theorem Raw.ent_ok {r : Raw} (h : r.ok) (hn : r.name.size ≤ 1024) : r.ent.ok := by
  obtain ⟨h0, h1, h2, h3, h4, h5, h6, h7, h8⟩ := h
  have := lo4_bounds _ _ _ _ h0 h1 h2 h3
  exact ⟨hn, this.1, this.2, h4, h5, Nat.mod_lt _ (by omega), h7, h8⟩

theorem Ybaf.info48 : (Ybaf.prog.info? 48).map (fun i => (i.zero, i.size, i.bytes)) = some (some (.agg #[.string ⟨#[]⟩, .int .u64 0, .int .u64 0, .pointer none, .int .u16 0, .string ⟨#[]⟩, .int .u64 0]), 7, 72) := by kernel_rfl

/-- The slice of entries that came in. -/
def IsRaws (va : Option Addr) (Z : List Raw) (w : World) : Prop := ∀ i, i < Z.length → ∃ b o, va = some ⟨b, o, none⟩ ∧ b < w.heap.size ∧ ∀ j, j < 8 → w.cell? ⟨b, o + (i * 8 + j), none⟩ = (cellsR (Z.getD i Raw.none))[j]?

/-- The message while its entries are laid. -/
structure Built (k seq : Int) (g : ByteArray) (t0 t1 t2 t3 tp : Int) (z : Addr) (Z : List Raw) (mb : Nat) (w : World) (j : Nat) (wr : World) : Prop where
  le : j ≤ Z.length
  row : ∃ v, wr.heap[mb]? = some (.cells #[.int .u8 k, .int .u32 seq, .string g, .int .u64 0, .int .u64 (lo4 t0 t1 t2 t3), .pointer (some z), .int .u16 tp, v] 44) ∧
    wr.ownsRow (mb + 1) 48 7 v j (entCells z ((Z.map Raw.ent).take j)) ∧ Below w.heap.size w wr ∧ wr.heap[w.heap.size]? = some (.cells #[.int .u8 t0, .int .u8 t1, .int .u8 t2, .int .u8 t3] 23) ∧ mb + 1 ≤ wr.heap.size

theorem getD_memR {E : List Raw} {j : Nat} {d : Raw} (h : j < E.length) : E.getD j d ∈ E := by
  rw [List.getD_eq_getElem?_getD, List.getElem?_eq_getElem h]; simp
theorem ents_next (z : Addr) (Z : List Raw) (j : Nat) (h : j < Z.length) : entCells z ((Z.map Raw.ent).take (j + 1)) = entCells z ((Z.map Raw.ent).take j) ++ cellsE z (Z.getD j Raw.none).ent := by
  rw [List.take_succ_eq_append_getElem (by simpa using h), entCells_snoc]
  simp [List.getD_eq_getElem?_getD, List.getElem?_eq_getElem h]

theorem Built.msg {k seq : Int} {g : ByteArray} {t0 t1 t2 t3 tp : Int} {z : Addr} {Z : List Raw} {mb : Nat} {w wr : World} (h : Built k seq g t0 t1 t2 t3 tp z Z mb w Z.length wr) : ∃ va vc, IsMsg mb k seq g (lo4 t0 t1 t2 t3) z tp (Z.map Raw.ent) va vc wr := by
  obtain ⟨_, v, hm, hv, _, _, _⟩ := h
  have hT : (Z.map Raw.ent).take Z.length = Z.map Raw.ent := List.take_of_length_le (by simp)
  rw [hT] at hv
  rcases hv.2 with ⟨rfl, h0⟩ | ⟨ge, cap, cur, rfl, hb, hgg, _⟩
  · refine ⟨none, 0, by rw [List.length_map, h0]; exact hm, fun i hi => ?_⟩
    rw [List.length_map] at hi; omega
  · refine ⟨some ⟨ge, 0, none⟩, cap, by rw [List.length_map]; exact hm, fun i hi => ⟨ge, rfl, lt_of_at hgg, fun j hj => ?_⟩⟩
    have hx := entCells_at z (Z.map Raw.ent) i j hi hj
    have hl : j < (cellsE z ((Z.map Raw.ent).getD i ⟨.empty, 0, 0, 0, 0⟩)).length := by simpa [cellsE] using hj
    rw [List.getElem?_eq_getElem hl] at hx ⊢
    have := hv.cells (g := ge) rfl (i * 7 + j) _ hx
    rw [Addr.add_lit] at this
    simpa using this

set_option maxRecDepth 20000 in
set_option maxHeartbeats 4000000 in
theorem walk_main (k seq : Int) (g : ByteArray) (t0 t1 t2 t3 tp : Int) (va : Option Addr) (vc : Nat) (Z : List Raw) (z : Addr) (gs os cs : Nat) (w : World)
    (hk0 : 0 ≤ k) (hk1 : k < 256) (hs0 : 0 ≤ seq) (hs1 : seq < 4294967296) (hg : g.size ≤ 1024) (ht0 : byte t0) (ht1 : byte t1) (ht2 : byte t2) (ht3 : byte t3) (hp0 : 0 ≤ tp) (hp1 : tp < 65536)
    (hn : Z.length ≤ 300) (hZ : ∀ r ∈ Z, r.ok) (hR : IsRaws va Z w)
    (hz : w.cell? ⟨1, 0, none⟩ = some (.pointer (some z))) (hst : States gs os cs w) (hgs : gs < w.heap.size)
    (q0 : w.cell? ⟨2, 0, none⟩ = some (.int .u8 77)) (q1 : w.cell? ⟨2, 1, none⟩ = some (.int .u8 115)) (q2 : w.cell? ⟨2, 2, none⟩ = some (.int .u8 1)) :
    Calls Ybaf.prog 3 #[.int .u8 k, .int .u32 seq, .string g, .agg #[.int .u8 t0, .int .u8 t1, .int .u8 t2, .int .u8 t3], .int .u16 tp, .slice va Z.length vc] w fun r w' => r = .returned (.bool true) ∧ Below w.heap.size w w' := by
  have l2 : 2 < w.heap.size := World.block_lt_of_cell? w _ q0
  have B0 : Below w.heap.size w (w.alloc (.cells #[.int .u8 t0, .int .u8 t1, .int .u8 t2, .int .u8 t3] 23)) := (Below.refl _ _).alloc (Nat.le_refl _) _
  obtain ⟨i0, hi, hy0, hy1, hy2⟩ := info_parts Ybaf.info48
  go_enter Ybaf.func3, Ybaf.ntmps3
  go_wp2_with fail
  go_loop [13] (fun i => ∃ j : Nat, i = .int .i64 j ∧ j ≤ Z.length ∧ ∀ i', i' < j → (Z.getD i' Raw.none).name.size ≤ 1024) (fun i => Z.length - (intOf i).toNat)
  case atStart => exact ⟨0, rfl, Nat.zero_le _, fun i' h => by omega⟩
  case round =>
    obtain ⟨j, rfl, hj, hnm⟩ := hrel
    replace hnm : Hid _ := hnm
    by_cases hlt : j < Z.length
    · obtain ⟨b, o, rfl, hb, hc⟩ := hR j hlt
      have c0 := old_alloc (hc 0 (by omega)) (.cells #[.int .u8 t0, .int .u8 t1, .int .u8 t2, .int .u8 t3] 23)
      simp only [cellsR, Nat.add_zero] at c0
      have hnm' : (Z.getD j Raw.none).name.size ≤ 1024 → Hid (∀ i', i' < j + 1 → (Z.getD i' Raw.none).name.size ≤ 1024) := fun h i' hi' => if e : i' = j then e ▸ h else hnm.out i' (by omega)
      by_cases hsz : (Z.getD j Raw.none).name.size ≤ 1024
      · have hN := hnm' hsz
        clear hnm' hnm hc
        generalize (Z.getD j Raw.none).name = nm at c0 hsz
        go_wp2_with fail
        go_round
        case rel => exact ⟨j + 1, by go_num, by omega, hN.out⟩
        case measure => simp [intOf] <;> omega
      · clear hnm' hnm hc
        generalize (Z.getD j Raw.none).name = nm at c0 hsz
        go_wp2_with fail
        go_ret
        exact ⟨rfl, B0⟩
    · obtain rfl : j = Z.length := by omega
      have hz0 := old_alloc hz (.cells #[.int .u8 t0, .int .u8 t1, .int .u8 t2, .int .u8 t3] 23)
      go_wp2_with fail
      refine (from4_any t0 t1 t2 t3 ht0 ht1 ht2 ht3 z _ hz0).mono ?_
      rintro _ w1 ⟨rfl, K1⟩
      go_wp2_with fail
      refine (portFrom_any _ z tp _).mono ?_
      rintro _ w2 ⟨rfl, K2⟩
      have K02 : Kept [] (w.alloc (.cells #[.int .u8 t0, .int .u8 t1, .int .u8 t2, .int .u8 t3] 23)) w2 := K1.trans K2
      go_wp2_with fail
      have hmb := alloc_at w2 (.cells #[.int .u8 k, .int .u32 seq, .string g, .int .u64 0, .int .u64 (lo4 t0 t1 t2 t3), .pointer (some z), .int .u16 tp, .slice none 0 0] 44)
      have hsz2 := K02.size
      have hB2 : Built k seq g t0 t1 t2 t3 tp z Z w2.heap.size w 0 (w2.alloc (.cells #[.int .u8 k, .int .u32 seq, .string g, .int .u64 0, .int .u64 (lo4 t0 t1 t2 t3), .pointer (some z), .int .u16 tp, .slice none 0 0] 44)) := by
        refine ⟨Nat.zero_le _, _, hmb, World.ownsRow_nil _ _ _ _, (B0.trans (K02.below (by simp) (by simp))).alloc (by simp at hsz2; omega) _, ?_, by simp⟩
        exact (Kept.alloc [] _ _).at (K02.at (alloc_at _ _) (by simp)) (by simp)
      have hmbz : w.heap.size < w2.heap.size := by simp at hsz2; omega
      generalize hWm : (w2.alloc (.cells #[.int .u8 k, .int .u32 seq, .string g, .int .u64 0, .int .u64 (lo4 t0 t1 t2 t3), .pointer (some z), .int .u16 tp, .slice none 0 0] 44)) = wm at *
      generalize hmbe : w2.heap.size = mb at *
      clear hWm hmbe hmb hsz2 K02 K1 K2 hz0 B0
      replace hnm : Hid _ := hnm
      go_loopw [53] (fun i wr => ∃ j : Nat, i = .int .i64 j ∧ Built k seq g t0 t1 t2 t3 tp z Z mb w j wr) (fun i _ => Z.length - (intOf i).toNat)
      case atStart => exact ⟨0, rfl, hB2⟩
      clear hB2 wm
      case round =>
        obtain ⟨j, rfl, hj, v, hm, hv, hb, htip, hmz⟩ := hrel
        by_cases hlt : j < Z.length
        · obtain ⟨b, o, rfl, hbl, hc⟩ := hR j hlt
          have hok := hZ (Z.getD j Raw.none) (getD_memR hlt)
          have hrn := hnm.out j hlt
          have hnext := ents_next z Z j hlt
          generalize Z.getD j Raw.none = r at hc hok hrn hnext
          obtain ⟨r0, r1, r2, r3, r4, r5, r6, r7, r8⟩ := hok
          have c0 : wr.cell? ⟨b, o + j * 8, none⟩ = some (.string r.name) := (hb.cell (p := ⟨b, o + j * 8, none⟩) hbl).trans (hc 0 (by omega))
          have c1 : wr.cell? ⟨b, o + j * 8 + 1, none⟩ = some (.int .u8 r.b0) := (hb.cell (p := ⟨b, o + j * 8 + 1, none⟩) hbl).trans (hc 1 (by omega))
          have c2 : wr.cell? ⟨b, o + j * 8 + 2, none⟩ = some (.int .u8 r.b1) := (hb.cell (p := ⟨b, o + j * 8 + 2, none⟩) hbl).trans (hc 2 (by omega))
          have c3 : wr.cell? ⟨b, o + j * 8 + 3, none⟩ = some (.int .u8 r.b2) := (hb.cell (p := ⟨b, o + j * 8 + 3, none⟩) hbl).trans (hc 3 (by omega))
          have c4 : wr.cell? ⟨b, o + j * 8 + 4, none⟩ = some (.int .u8 r.b3) := (hb.cell (p := ⟨b, o + j * 8 + 4, none⟩) hbl).trans (hc 4 (by omega))
          have c5 : wr.cell? ⟨b, o + j * 8 + 5, none⟩ = some (.int .u16 r.port) := (hb.cell (p := ⟨b, o + j * 8 + 5, none⟩) hbl).trans (hc 5 (by omega))
          have c6 : wr.cell? ⟨b, o + j * 8 + 6, none⟩ = some (.int .u8 r.st) := (hb.cell (p := ⟨b, o + j * 8 + 6, none⟩) hbl).trans (hc 6 (by omega))
          have c7 : wr.cell? ⟨b, o + j * 8 + 7, none⟩ = some (.int .u64 r.inc) := (hb.cell (p := ⟨b, o + j * 8 + 7, none⟩) hbl).trans (hc 7 (by omega))
          clear hc
          go_wp2_with fail
          have lX := alloc_at wr (.cells #[.string r.name, .int .u8 r.b0, .int .u8 r.b1, .int .u8 r.b2, .int .u8 r.b3, .int .u16 r.port, .int .u8 r.st, .int .u64 r.inc] 28)
          have kX : Kept [] wr (wr.alloc (.cells #[.string r.name, .int .u8 r.b0, .int .u8 r.b1, .int .u8 r.b2, .int .u8 r.b3, .int .u16 r.port, .int .u8 r.st, .int .u64 r.inc] 28)) := Kept.alloc _ _ _
          have hzr : wr.cell? ⟨1, 0, none⟩ = some (.pointer (some z)) := (hb.cell (p := ⟨1, 0, none⟩) (by simp; omega)).trans hz
          have hsr : States gs os cs wr := hst.below hb (by omega) hgs
          have svr := hsr.var
          have srr := hsr.row (r.st % 4) (by omega)
          have ws : IntKind.i64.wrap (r.st : Int) = r.st := IntWalk.i64_in _ (by omega)
          have hnb : wr.heap.size ∉ v.ownBlock.toList := fun h => by have := owns_lt hv h; omega
          have hsX : (wr.alloc (.cells #[.string r.name, .int .u8 r.b0, .int .u8 r.b1, .int .u8 r.b2, .int .u8 r.b3, .int .u16 r.port, .int .u8 r.st, .int .u64 r.inc] 28)).heap.size = wr.heap.size + 1 := by simp
          generalize hWX : (wr.alloc (.cells #[.string r.name, .int .u8 r.b0, .int .u8 r.b1, .int .u8 r.b2, .int .u8 r.b3, .int .u16 r.port, .int .u8 r.st, .int .u64 r.inc] 28)) = WX at *
          have hzX : WX.cell? ⟨1, 0, none⟩ = some (.pointer (some z)) := kX.cell hzr (by simp)
          have hmX := kX.at hm (by simp)
          have hvX := kX.owns hv (by simp)
          have htX := kX.at htip (by simp)
          have hbX : Below w.heap.size w WX := hb.trans (kX.below (by omega) (by simp))
          have svX := kX.cell svr (by simp)
          have srX := kX.cell srr (by simp)
          clear hWX c0 c1 c2 c3 c4 c5 c6 c7 hsr svr srr hzr hm hv htip hb
          refine wp_region_noPanic (wp_region_last (fun w' => w'.cell? ⟨mb, 7, none⟩ = some v ∧ w'.cell? ⟨wr.heap.size, 0, none⟩ = some (.string r.name) ∧ w'.cell? ⟨wr.heap.size, 1, none⟩ = some (.int .u8 r.b0) ∧ w'.cell? ⟨wr.heap.size, 2, none⟩ = some (.int .u8 r.b1) ∧ w'.cell? ⟨wr.heap.size, 3, none⟩ = some (.int .u8 r.b2) ∧ w'.cell? ⟨wr.heap.size, 4, none⟩ = some (.int .u8 r.b3) ∧ w'.cell? ⟨wr.heap.size, 5, none⟩ = some (.int .u16 r.port) ∧ w'.cell? ⟨wr.heap.size, 6, none⟩ = some (.int .u8 r.st) ∧ w'.cell? ⟨wr.heap.size, 7, none⟩ = some (.int .u64 r.inc) ∧
            w'.cell? ⟨0, 0, none⟩ = some (.slice (some ⟨gs, os, none⟩) 4 cs) ∧ w'.cell? ⟨gs, os + r.st % 4, none⟩ = some (.string (stName (r.st % 4)))) [4, 6, 8, 11, 13, 15, 17, 21, 23] (by kernel_rfl) ?_)
          have KS0 : ∀ {w' : World} {L : List Nat}, Kept L WX w' → mb ∉ L → wr.heap.size ∉ L → 0 ∉ L → gs ∉ L → (w'.cell? ⟨mb, 7, none⟩ = some v ∧ w'.cell? ⟨wr.heap.size, 0, none⟩ = some (.string r.name) ∧ w'.cell? ⟨wr.heap.size, 1, none⟩ = some (.int .u8 r.b0) ∧ w'.cell? ⟨wr.heap.size, 2, none⟩ = some (.int .u8 r.b1) ∧ w'.cell? ⟨wr.heap.size, 3, none⟩ = some (.int .u8 r.b2) ∧ w'.cell? ⟨wr.heap.size, 4, none⟩ = some (.int .u8 r.b3) ∧ w'.cell? ⟨wr.heap.size, 5, none⟩ = some (.int .u16 r.port) ∧ w'.cell? ⟨wr.heap.size, 6, none⟩ = some (.int .u8 r.st) ∧ w'.cell? ⟨wr.heap.size, 7, none⟩ = some (.int .u64 r.inc) ∧
            w'.cell? ⟨0, 0, none⟩ = some (.slice (some ⟨gs, os, none⟩) 4 cs) ∧ w'.cell? ⟨gs, os + r.st % 4, none⟩ = some (.string (stName (r.st % 4)))) := fun {w' L} KK n1 n2 n3 n4 => by
            have h1 := KK.at hmX n1
            have h2 := KK.at lX n2
            exact ⟨cell_at h1 7 rfl, cell_at h2 0 rfl, cell_at h2 1 rfl, cell_at h2 2 rfl, cell_at h2 3 rfl, cell_at h2 4 rfl, cell_at h2 5 rfl, cell_at h2 6 rfl, cell_at h2 7 rfl, KK.cell svX n3, KK.cell srX n4⟩
          have KS : ∀ {w' : World}, Kept [] WX w' → _ := fun KK => KS0 KK (by simp) (by simp) (by simp) (by simp)
          have hS := KS (Kept.drew [] WX)
          refine wpAnyL_free (i := 0) (v := ?_) rfl (by kernel_rfl) (by kernel_rfl) (by kernel_rfl) (fun _ _ _ h => h) (by rfl) ?_ ?_
          rotate_left
          · intro w'; go_simp; try with_reducible rfl
          try simp only [Act.put, List.setIfInBounds_toArray, List.set_cons_zero, List.set_cons_succ]
          refine wpAnyL_free (i := 1) (v := ?_) rfl (by kernel_rfl) (by kernel_rfl) (by kernel_rfl) (fun _ _ _ h => h) (by rfl) ?_ ?_
          rotate_left
          · intro w'; go_simp; try with_reducible rfl
          try simp only [Act.put, List.setIfInBounds_toArray, List.set_cons_zero, List.set_cons_succ]
          refine wpAnyL_free (i := 2) (v := ?_) rfl (by kernel_rfl) (by kernel_rfl) (by kernel_rfl) (fun _ _ _ h => h) (by rfl) ?_ ?_
          rotate_left
          · intro w'; go_simp; try with_reducible rfl
          try simp only [Act.put, List.setIfInBounds_toArray, List.set_cons_zero, List.set_cons_succ]
          refine wpAnyL_free (i := 3) (v := ?_) rfl (by kernel_rfl) (by kernel_rfl) (by kernel_rfl) (fun _ _ _ h => h) (by rfl) ?_ ?_
          rotate_left
          · intro w'; go_simp; try with_reducible rfl
          try simp only [Act.put, List.setIfInBounds_toArray, List.set_cons_zero, List.set_cons_succ]
          refine wpAnyL_take (i := 4) (v := ?_) rfl (by kernel_rfl) (by kernel_rfl) (by kernel_rfl) (by kernel_rfl) (fun _ _ _ h => h) (by rfl) ?_ hS ?_
          rotate_left
          · rintro w' ⟨s0, e0, e1, e2, e3, e4, e5, e6, e7, sv, sr⟩; go_simp; try with_reducible rfl
          try simp only [Act.put, List.setIfInBounds_toArray, List.set_cons_zero, List.set_cons_succ]
          refine wpAnyL_free (i := 5) (v := ?_) rfl (by kernel_rfl) (by kernel_rfl) (by kernel_rfl) (fun _ _ _ h => h) (by rfl) ?_ ?_
          rotate_left
          · intro w'; go_simp; try with_reducible rfl
          try simp only [Act.put, List.setIfInBounds_toArray, List.set_cons_zero, List.set_cons_succ]
          refine wpAnyL_take (i := 6) (v := ?_) rfl (by kernel_rfl) (by kernel_rfl) (by kernel_rfl) (by kernel_rfl) (fun _ _ _ h => h) (by rfl) ?_ hS ?_
          rotate_left
          · rintro w' ⟨s0, e0, e1, e2, e3, e4, e5, e6, e7, sv, sr⟩; go_simp; try with_reducible rfl
          try simp only [Act.put, List.setIfInBounds_toArray, List.set_cons_zero, List.set_cons_succ]
          refine wpAnyL_free (i := 7) (v := ?_) rfl (by kernel_rfl) (by kernel_rfl) (by kernel_rfl) (fun _ _ _ h => h) (by rfl) ?_ ?_
          rotate_left
          · intro w'; go_simp; try with_reducible rfl
          try simp only [Act.put, List.setIfInBounds_toArray, List.set_cons_zero, List.set_cons_succ]
          refine wpAnyL_take (i := 8) (v := ?_) rfl (by kernel_rfl) (by kernel_rfl) (by kernel_rfl) (by kernel_rfl) (fun _ _ _ h => h) (by rfl) ?_ hS ?_
          rotate_left
          · rintro w' ⟨s0, e0, e1, e2, e3, e4, e5, e6, e7, sv, sr⟩; go_simp; try with_reducible rfl
          try simp only [Act.put, List.setIfInBounds_toArray, List.set_cons_zero, List.set_cons_succ]
          refine wpAnyL_free (i := 10) (v := ?_) rfl (by kernel_rfl) (by kernel_rfl) (by kernel_rfl) (fun _ _ _ h => h) (by rfl) ?_ ?_
          rotate_left
          · intro w'; go_simp; try with_reducible rfl
          try simp only [Act.put, List.setIfInBounds_toArray, List.set_cons_zero, List.set_cons_succ]
          refine wpAnyL_take (i := 11) (v := ?_) rfl (by kernel_rfl) (by kernel_rfl) (by kernel_rfl) (by kernel_rfl) (fun _ _ _ h => h) (by rfl) ?_ hS ?_
          rotate_left
          · rintro w' ⟨s0, e0, e1, e2, e3, e4, e5, e6, e7, sv, sr⟩; go_simp; try with_reducible rfl
          try simp only [Act.put, List.setIfInBounds_toArray, List.set_cons_zero, List.set_cons_succ]
          refine wpAnyL_take (i := 13) (v := ?_) rfl (by kernel_rfl) (by kernel_rfl) (by kernel_rfl) (by kernel_rfl) (fun _ _ _ h => h) (by rfl) ?_ hS ?_
          rotate_left
          · rintro w' ⟨s0, e0, e1, e2, e3, e4, e5, e6, e7, sv, sr⟩; go_simp; try with_reducible rfl
          try simp only [Act.put, List.setIfInBounds_toArray, List.set_cons_zero, List.set_cons_succ]
          refine wpAnyL_free (i := 14) (v := ?_) rfl (by kernel_rfl) (by kernel_rfl) (by kernel_rfl) (fun _ _ _ h => h) (by rfl) ?_ ?_
          rotate_left
          · intro w'; go_simp; try with_reducible rfl
          try simp only [Act.put, List.setIfInBounds_toArray, List.set_cons_zero, List.set_cons_succ]
          refine wpAnyL_take (i := 15) (v := ?_) rfl (by kernel_rfl) (by kernel_rfl) (by kernel_rfl) (by kernel_rfl) (fun _ _ _ h => h) (by rfl) ?_ hS ?_
          rotate_left
          · rintro w' ⟨s0, e0, e1, e2, e3, e4, e5, e6, e7, sv, sr⟩; go_simp; try with_reducible rfl
          try simp only [Act.put, List.setIfInBounds_toArray, List.set_cons_zero, List.set_cons_succ]
          refine wpAnyL_free (i := 16) (v := ?_) rfl (by kernel_rfl) (by kernel_rfl) (by kernel_rfl) (fun _ _ _ h => h) (by rfl) ?_ ?_
          rotate_left
          · intro w'; go_simp; try with_reducible rfl
          try simp only [Act.put, List.setIfInBounds_toArray, List.set_cons_zero, List.set_cons_succ]
          refine wpAnyL_take (i := 17) (v := ?_) rfl (by kernel_rfl) (by kernel_rfl) (by kernel_rfl) (by kernel_rfl) (fun _ _ _ h => h) (by rfl) ?_ hS ?_
          rotate_left
          · rintro w' ⟨s0, e0, e1, e2, e3, e4, e5, e6, e7, sv, sr⟩; go_simp; try with_reducible rfl
          try simp only [Act.put, List.setIfInBounds_toArray, List.set_cons_zero, List.set_cons_succ]
          refine wpAnyL_free (i := 18) (v := ?_) rfl (by kernel_rfl) (by kernel_rfl) (by kernel_rfl) (fun _ _ _ h => h) (by rfl) ?_ ?_
          rotate_left
          · intro w'; go_simp; try with_reducible rfl
          try simp only [Act.put, List.setIfInBounds_toArray, List.set_cons_zero, List.set_cons_succ]
          refine wpAnyL_free (i := 19) (v := (.int .i64 ((r.st % 4 : Nat) : Int))) rfl (by kernel_rfl) (by kernel_rfl) (by kernel_rfl) (fun _ _ _ h => h) (by rfl) ?_ ?_
          · intro w'; go_simp; rw [Int.tmod_eq_emod_of_nonneg (by omega)]
          try simp only [Act.put, List.setIfInBounds_toArray, List.set_cons_zero, List.set_cons_succ]
          refine wpAnyL_free (i := 20) (v := (.pointer (some ⟨gs, os + r.st % 4, none⟩))) rfl (by kernel_rfl) (by kernel_rfl) (by kernel_rfl) (fun _ _ _ h => h) (by rfl) ?_ ?_
          · intro w'; go_simp; rw [if_pos (by omega), show ((r.st : Int) % 4).toNat = r.st % 4 by omega]
          try simp only [Act.put, List.setIfInBounds_toArray, List.set_cons_zero, List.set_cons_succ]
          refine wpAnyL_take (i := 21) (v := ?_) rfl (by kernel_rfl) (by kernel_rfl) (by kernel_rfl) (by kernel_rfl) (fun _ _ _ h => h) (by rfl) ?_ hS ?_
          rotate_left
          · rintro w' ⟨s0, e0, e1, e2, e3, e4, e5, e6, e7, sv, sr⟩; go_simp; try with_reducible rfl
          try simp only [Act.put, List.setIfInBounds_toArray, List.set_cons_zero, List.set_cons_succ]
          refine wpAnyL_free (i := 22) (v := ?_) rfl (by kernel_rfl) (by kernel_rfl) (by kernel_rfl) (fun _ _ _ h => h) (by rfl) ?_ ?_
          rotate_left
          · intro w'; go_simp; try with_reducible rfl
          try simp only [Act.put, List.setIfInBounds_toArray, List.set_cons_zero, List.set_cons_succ]
          refine wpAnyL_take (i := 23) (v := ?_) rfl (by kernel_rfl) (by kernel_rfl) (by kernel_rfl) (by kernel_rfl) (fun _ _ _ h => h) (by rfl) ?_ hS ?_
          rotate_left
          · rintro w' ⟨s0, e0, e1, e2, e3, e4, e5, e6, e7, sv, sr⟩; go_simp; try with_reducible rfl
          try simp only [Act.put, List.setIfInBounds_toArray, List.set_cons_zero, List.set_cons_succ]
          refine wpAnyL_one (i := 9) (by kernel_rfl) rfl (by rfl) (fun K hK => ?_)
          go_simp
          refine (from4_any r.b0 r.b1 r.b2 r.b3 r0 r1 r2 r3 z WX.drew hzX).mono ?_
          rintro _ wx ⟨rfl, KX⟩
          refine hK.out _ _ (fun _ hS => KS ((Kept.drew [] WX).trans KX)) ?_
          clear hK K
          try simp only [Act.put, List.setIfInBounds_toArray, List.set_cons_zero, List.set_cons_succ]
          refine wpAnyL_one (i := 12) (by kernel_rfl) rfl (by rfl) (fun K hK => ?_)
          go_simp
          refine (portFrom_any _ z r.port _).mono ?_
          rintro _ wy ⟨rfl, KY0⟩
          have KY : Kept [] WX wy := ((Kept.drew [] WX).trans KX).trans KY0
          clear KX KY0
          refine hK.out _ _ (fun _ hS => KS KY) ?_
          clear hK K
          try simp only [Act.put, List.setIfInBounds_toArray, List.set_cons_zero, List.set_cons_succ]
          refine wpAnyL_free (i := 24) (v := ?_) rfl (by kernel_rfl) (by kernel_rfl) (by kernel_rfl) (fun _ _ _ h => h) (by rfl) ?_ ?_
          rotate_left
          · intro w'; go_simp; try with_reducible rfl
          try simp only [Act.put, List.setIfInBounds_toArray, List.set_cons_zero, List.set_cons_succ]
          refine wpAnyL_one (i := 25) (by kernel_rfl) rfl (by rfl) (fun K hK => ?_)
          go_simp
          refine hK.out _ _ (fun _ hS => KS (KY.trans (Kept.alloc _ _ _))) ?_
          clear hK K
          try simp only [Act.put, List.setIfInBounds_toArray, List.set_cons_zero, List.set_cons_succ]
          refine wpAnyL_one (i := 26) (by kernel_rfl) rfl (by rfl) (fun K hK => ?_)
          refine wp_append_lies _ (.tmp 61) (.tmp 82) 42 (by rfl) (mb + 1) 48 i0 (.agg #[.string ⟨#[]⟩, .int .u64 0, .int .u64 0, .pointer none, .int .u16 0, .string ⟨#[]⟩, .int .u64 0]) 7 72 Ybaf.underlying42 hi hy0 hy1 hy2 rfl (by decide) v j (entCells z ((Z.map Raw.ent).take j)) (by rfl) ((KY.owns hvX (by simp)).alloc _) ⟨wy.heap.size, 0, none⟩ 1 1 (cellsE z r.ent) (by rfl) rfl (World.news_of_block (cs := (cellsE z r.ent).toArray) (alloc_at _ _)) (by intro u hu; simp [cellsE] at hu; rcases hu with rfl | rfl | rfl | rfl | rfl | rfl | rfl <;> rfl) (by omega) (by unfold maxLen; omega) (by omega) (by have := KY.size; simp; omega) (wy.heap.size + 1) (by simp) ?_
          intro g1 c1 w5 hown hgrow hat hlt1
          have K5 : Kept v.ownBlock.toList WX w5 := (KY.mono (by simp)).trans (Kept.grownAlloc hgrow)
          have own : ∀ x, x ∈ v.ownBlock.toList → mb + 1 ≤ x := fun x hx => (owns_lt hvX hx).1
          have nm : mb ∉ v.ownBlock.toList := fun h => by have := own _ h; omega
          have hm5 := K5.at hmX nm
          have ht5 := K5.at htX (fun h => by have := own _ h; omega)
          have d0 : w5.cell? ⟨mb, 7, none⟩ = some v := cell_at hm5 7 rfl
          have f0 : w5.frozen? ⟨mb, 7, none⟩ = false := frozen_at hm5 7
          have hgm : g1 ≠ mb := by
            rcases hat with hat | hat
            · intro h; subst h; exact nm (by simpa using hat)
            · have := KY.size; omega
          refine hK.out _ _ (fun _ hS => KS0 K5 nm hnb (fun h => by have := own _ h; omega) (fun h => by have := own _ h; omega)) ?_
          clear hK K
          try simp only [Act.put, List.setIfInBounds_toArray, List.set_cons_zero, List.set_cons_succ]
          refine wpAnyL_free (i := 27) (v := ?_) rfl (by kernel_rfl) (by kernel_rfl) (by kernel_rfl) (fun _ _ _ h => h) (by rfl) ?_ ?_
          rotate_left
          · intro w'; go_simp; try with_reducible rfl
          try simp only [Act.put, List.setIfInBounds_toArray, List.set_cons_zero, List.set_cons_succ]
          refine wpAnyL_free (i := 28) (v := ?_) rfl (by kernel_rfl) (by kernel_rfl) (by kernel_rfl) (fun _ _ _ h => h) (by rfl) ?_ ?_
          rotate_left
          · intro w'; go_simp; try with_reducible rfl
          try simp only [Act.put, List.setIfInBounds_toArray, List.set_cons_zero, List.set_cons_succ]
          refine wpAnyL_end (i := 29) (by kernel_rfl) rfl (by rfl) (by kernel_rfl) (fun K hK => ?_)
          go_simp
          refine hK.out _ _ ?_
          clear hK K
          refine wpAnyL_done (by kernel_rfl) ?_ _
          refine NoPanic.normal ?_
          have K6 : Kept [mb] w5 (w5.setCell ⟨mb, 7, none⟩ (.slice (some ⟨g1, 0, none⟩) (j + 1) c1)) := Kept.setCell _ _ _ (by simp)
          have hz5 := K5.size
          have fin : Built k seq g t0 t1 t2 t3 tp z Z mb w (j + 1) (w5.setCell ⟨mb, 7, none⟩ (.slice (some ⟨g1, 0, none⟩) (j + 1) c1)) := by
            refine ⟨hlt, .slice (some ⟨g1, 0, none⟩) (j + 1) c1, set_at hm5 7 _, ?_, ?_, K6.at ht5 (by simp; omega), by have := K6.size; omega⟩
            · rw [hnext]; exact K6.owns hown (by simp [Value.ownBlock]; omega)
            · exact hbX.trans ((K5.below (by omega) (fun x hx => by have := own _ hx; omega)).trans (K6.below (by omega) (by simp; omega)))
          generalize (w5.setCell ⟨mb, 7, none⟩ (.slice (some ⟨g1, 0, none⟩) (j + 1) c1)) = W6 at *
          clear d0 f0 hm5 ht5 K5 K6 hown hgrow KY hS KS0 lX hmX htX svX srX hvX hzX
          go_wp2_with fail
          go_roundw
          case rel => exact ⟨j + 1, by go_num, fin⟩
          case measure => simp [intOf] <;> omega
        · obtain rfl : j = Z.length := by omega
          obtain ⟨va', vc', hmsg⟩ := Built.msg ⟨hj, v, hm, hv, hb, htip, hmz⟩
          have hEok : ∀ e ∈ Z.map Raw.ent, e.ok := fun e he => by
            obtain ⟨r, hr, rfl⟩ := List.mem_map.1 he
            obtain ⟨i', hi', rfl⟩ := List.getElem_of_mem hr
            have h1 := hnm.out i' hi'
            rw [List.getD_eq_getElem?_getD, List.getElem?_eq_getElem hi'] at h1
            exact Raw.ent_ok (hZ _ hr) h1
          obtain ⟨lb0, lb1⟩ := lo4_bounds t0 t1 t2 t3 ht0 ht1 ht2 ht3
          have hzr : wr.cell? ⟨1, 0, none⟩ = some (.pointer (some z)) := (hb.cell (p := ⟨1, 0, none⟩) (by simp; omega)).trans hz
          have hsr : States gs os cs wr := hst.below hb (by omega) hgs
          have q0r := (hb.cell (p := ⟨2, 0, none⟩) l2).trans q0
          have q1r := (hb.cell (p := ⟨2, 1, none⟩) l2).trans q1
          have q2r := (hb.cell (p := ⟨2, 2, none⟩) l2).trans q2
          have hszr := hb.size
          clear hm hv
          go_wp2_with fail
          refine (encode_any mb k seq g (lo4 t0 t1 t2 t3) z tp (Z.map Raw.ent) va' vc' gs os cs wr hmsg hEok (by simpa using hn) hk0 hk1 hs0 hs1 hg lb0 lb1 hp0 hp1 hzr hsr (by omega) q0r q1r q2r).mono ?_
          rintro _ we ⟨vg, rfl, hgot, bE⟩
          have htE : we.heap[w.heap.size]? = some (.cells #[.int .u8 t0, .int .u8 t1, .int .u8 t2, .int .u8 t3] 23) := below_at bE htip (by omega)
          have hbE : Below w.heap.size w we := hb.trans (bE.mono (by omega))
          have hszE := bE.size
          obtain ⟨i5, hi5, hx0, hx1, hx2⟩ := info_parts Ybaf.info5
          have ipt := ip_bytes t0 t1 t2 t3 ht0 ht1 ht2 ht3
          replace ipt : Hid _ := ipt
          have hgot' : Hid (we.ownsRow wr.heap.size 5 1 vg (encH k seq g (lo4 t0 t1 t2 t3) tp (Z.map Raw.ent).length ++ encAll (Z.map Raw.ent)).length (bs (encH k seq g (lo4 t0 t1 t2 t3) tp (Z.map Raw.ent).length ++ encAll (Z.map Raw.ent)))) := hgot
          have hgotlt : ∀ x, vg.ownBlock = some x → x < we.heap.size := fun x hx => (hgot.lt x hx).2
          clear hgot
          clear hmsg hzr q0r q1r q2r htip hi hy0 hy1 hy2
          have B0 : Below we.heap.size we (we.alloc (.cells #[.int .u8 77, .int .u8 115, .int .u8 1, .int .u8 k] 5)) := (Below.refl _ _).alloc (Nat.le_refl _) _
          have O0 : (we.alloc (.cells #[.int .u8 77, .int .u8 115, .int .u8 1, .int .u8 k] 5)).ownsRow we.heap.size 5 1 (.slice (some ⟨we.heap.size, 0, none⟩) 4 4) [77, 115, 1, k].length (bs [77, 115, 1, k]) := ⟨by simp [bs], .inr ⟨we.heap.size, 4, #[.int .u8 77, .int .u8 115, .int .u8 1, .int .u8 k], rfl, Nat.le_refl _, heap_alloc_new _ _, by simp, by decide, rfl, by simp [bs]⟩⟩
          have hsz0 : we.heap.size ≤ (we.alloc (.cells #[.int .u8 77, .int .u8 115, .int .u8 1, .int .u8 k] 5)).heap.size := by simp
          have step : ∀ (v : Value) (L : List Int) (w' : World), Appended we.heap.size (.slice (some ⟨we.heap.size, 0, none⟩) 4 4) [77, 115, 1, k] L (we.alloc (.cells #[.int .u8 77, .int .u8 115, .int .u8 1, .int .u8 k] 5)) v w' → Below we.heap.size we w' ∧ we.heap.size ≤ w'.heap.size ∧ w'.ownsRow we.heap.size 5 1 v ([77, 115, 1, k] ++ L).length (bs ([77, 115, 1, k] ++ L)) := fun v L w' h => by
            have hb := h.below O0 hsz0
            exact ⟨B0.trans hb, Nat.le_trans hsz0 hb.size, h.owns⟩
          replace step : Hid _ := step
          go_wp2_with fail
          refine (put_any we.heap.size _ [77, 115, 1, k] seq 4 hs0 (by omega) (by omega) _ O0 hsz0 (by simp)).mono ?_
          rintro _ w1 ⟨v1, rfl, C1⟩
          obtain ⟨b1, z1, o1⟩ := step.out _ _ _ C1
          clear B0 O0 hsz0
          go_wp2_with (at_builtin; refine wpList_bytes rfl (.tmp 95) (.tmp 99) 49 (by rfl) we.heap.size i5 Ybaf.underlying49 hi5 hx0 hx1 hx2 v1 _ ([77, 115, 1, k] ++ be seq 4) (by rfl) rfl (o1.alloc _) ⟨w1.heap.size, 0, none⟩ 1 1 [(g.size : Int) % 256] (by rfl) rfl (by omega) ?news (by simp [be_length]) (by simp; omega) ?_)
          case news => first | exact World.news_of_block (cs := #[.int .u8 ((g.size : Int) % 256)]) (alloc_at _ _) | (simp [bs]; done)
          intro v2 w2 A2
          have C2 := C1.trans (A2.of_kept (Kept.alloc _ _ _))
          obtain ⟨b2, z2, o2⟩ := step.out _ _ _ C2
          clear A2 o1 C1 b1 z1
          go_wp2_with (at_builtin; refine wpList_str rfl (.tmp 101) (.tmp 102) 49 9 (by rfl) we.heap.size i5 Ybaf.underlying49 Ybaf.underlying9 hi5 hx0 hx1 hx2 v2 _ ([77, 115, 1, k] ++ (be seq 4 ++ [(g.size : Int) % 256])) (by rfl) rfl o2 g (by rfl) (by simp [be_length]; omega) z2 ?_)
          intro v3 w3 A3
          have C3 : Appended we.heap.size (.slice (some ⟨we.heap.size, 0, none⟩) 4 4) [77, 115, 1, k] (be seq 4 ++ [(g.size : Int) % 256] ++ nums g) (we.alloc (.cells #[.int .u8 77, .int .u8 115, .int .u8 1, .int .u8 k] 5)) v3 w3 := C2.trans A3
          obtain ⟨b3, z3, o3⟩ := step.out _ _ _ C3
          clear A3 o2 C2 b2 z2
          have l3 : ([77, 115, 1, k] ++ (be seq 4 ++ [(g.size : Int) % 256] ++ nums g)).length ≤ 1090 := by simp [be_length, nums_length]; omega
          by_cases hk : k = 3
          · subst hk
            have ht3' : w3.heap[w.heap.size]? = some (.cells #[.int .u8 t0, .int .u8 t1, .int .u8 t2, .int .u8 t3] 23) := below_at b3 htE (by omega)
            have x0 : w3.cell? ⟨w.heap.size, 0, none⟩ = some (.int .u8 t0) := cell_at ht3' 0 rfl
            have x1 : w3.cell? ⟨w.heap.size, 1, none⟩ = some (.int .u8 t1) := cell_at ht3' 1 rfl
            have x2 : w3.cell? ⟨w.heap.size, 2, none⟩ = some (.int .u8 t2) := cell_at ht3' 2 rfl
            have x3 : w3.cell? ⟨w.heap.size, 3, none⟩ = some (.int .u8 t3) := cell_at ht3' 3 rfl
            go_wp2_with (at_builtin; refine wpList_bytes rfl (.tmp 106) (.tmp 115) 49 (by rfl) we.heap.size i5 Ybaf.underlying49 hi5 hx0 hx1 hx2 v3 _ ([77, 115, 1, 3] ++ (be seq 4 ++ [(g.size : Int) % 256] ++ nums g)) (by rfl) rfl (o3.alloc _) ⟨w3.heap.size, 0, none⟩ 4 4 [t0, t1, t2, t3] (by rfl) rfl (by omega) ?news (by omega) (by simp; omega) ?_)
            case news => first | exact World.news_of_block (cs := #[.int .u8 t0, .int .u8 t1, .int .u8 t2, .int .u8 t3]) (alloc_at _ _) | (simp [bs]; done)
            intro v4 w4 A4
            have C4 := C3.trans (A4.of_kept (Kept.alloc _ _ _))
            obtain ⟨b4, z4, o4⟩ := step.out _ _ _ C4
            have l4 : ([77, 115, 1, 3] ++ (be seq 4 ++ [(g.size : Int) % 256] ++ nums g ++ [t0, t1, t2, t3])).length ≤ 1100 := by simp [be_length, nums_length]; omega
            clear x0 x1 x2 x3 ht3' A4 o3 C3 b3 z3
            go_wp2_with fail
            refine (put_any we.heap.size v4 _ tp 2 hp0 (by omega) (by omega) _ o4 z4 (by omega)).mono ?_
            rintro _ w5 ⟨v5, rfl, A5⟩
            have C5 := C4.trans A5
            obtain ⟨b5, z5, o5⟩ := step.out _ _ _ C5
            clear A5 o4 C4 b4 z4
            have l5 : ([77, 115, 1, 3] ++ (be seq 4 ++ [(g.size : Int) % 256] ++ nums g ++ [t0, t1, t2, t3] ++ be tp 2)).length ≤ 1100 := by simp [be_length, nums_length]; omega
            go_wp2_with (at_builtin; refine wpList_bytes rfl (.tmp 121) (.tmp 125) 49 (by rfl) we.heap.size i5 Ybaf.underlying49 hi5 hx0 hx1 hx2 v5 _ ([77, 115, 1, 3] ++ (be seq 4 ++ [(g.size : Int) % 256] ++ nums g ++ [t0, t1, t2, t3] ++ be tp 2)) (by rfl) rfl (o5.alloc _) ⟨w5.heap.size, 0, none⟩ 1 1 [(Z.length : Int) % 256] (by rfl) rfl (by omega) ?news (by omega) (by simp; omega) ?_)
            case news => first | exact World.news_of_block (cs := #[.int .u8 ((Z.length : Int) % 256)]) (alloc_at _ _) | (simp [bs]; done)
            intro v6 w6 A6
            replace A6 : Appended we.heap.size v5 ([77, 115, 1, 3] ++ (be seq 4 ++ [(g.size : Int) % 256] ++ nums g ++ [t0, t1, t2, t3] ++ be tp 2)) [(Z.length : Int) % 256] (w5.alloc (.cells #[.int .u8 ((Z.length : Int) % 256)] 5)) v6 w6 := by first | exact A6 | simpa using A6
            have C6 := C5.trans (A6.of_kept (Kept.alloc _ _ _))
            have eH : [77, 115, 1, 3] ++ ((be seq 4 ++ [(g.size : Int) % 256] ++ nums g ++ [t0, t1, t2, t3] ++ be tp 2) ++ [(Z.length : Int) % 256]) = encH 3 seq g (lo4 t0 t1 t2 t3) tp Z.length := by
              simp [encH, ipt.out]
            obtain ⟨b6, z6, o6⟩ := step.out _ _ _ C6
            replace eH : Hid _ := eH
            clear A6 o5 C5 b5 z5 l5
            go_wp2_with fail
            go_loopw [18, 129] (fun b i wr => ∃ j : Nat, j ≤ Z.length ∧ i = .int .i64 j ∧ Appended we.heap.size (.slice (some ⟨we.heap.size, 0, none⟩) 4 4) [77, 115, 1, 3] (((be seq 4 ++ [(g.size : Int) % 256] ++ nums g ++ [t0, t1, t2, t3] ++ be tp 2) ++ [(Z.length : Int) % 256]) ++ encAll ((Z.map Raw.ent).take j)) (we.alloc (.cells #[.int .u8 77, .int .u8 115, .int .u8 1, .int .u8 3] 5)) b wr) (fun _ i _ => Z.length - (intOf i).toNat)
            case atStart => exact ⟨0, Nat.zero_le _, rfl, by simpa [encAll] using C6⟩
            clear C6 b6 z6 o6
            case round =>
              obtain ⟨j, hj, rfl, hA⟩ := hrel
              obtain ⟨br, zr, or⟩ := step.out _ _ _ hA
              have hlr : ([77, 115, 1, 3] ++ (((be seq 4 ++ [(g.size : Int) % 256] ++ nums g ++ [t0, t1, t2, t3] ++ be tp 2) ++ [(Z.length : Int) % 256]) ++ encAll ((Z.map Raw.ent).take j))).length ≤ 350000 := by
                have h1 := eH.out
                have h2 := encAll_len (k := 3) (seq := seq) (g := g) (x := lo4 t0 t1 t2 t3) (p := tp) (j := j) hEok hg (by simpa using hn) (by simpa using hj)
                rw [List.length_map, ← h1] at h2
                rw [← List.append_assoc]; exact h2
              by_cases hlt : j < Z.length
              · obtain ⟨b, o, rfl, hbl, hc⟩ := hR j hlt
                have hok := hZ (Z.getD j Raw.none) (getD_memR hlt)
                have hrn := hnm.out j hlt
                have hnext := encAll_next (Z.map Raw.ent) j (by simpa using hlt)
                rw [show (Z.map Raw.ent).getD j ⟨.empty, 0, 0, 0, 0⟩ = (Z.getD j Raw.none).ent by simp [List.getD_eq_getElem?_getD, List.getElem?_eq_getElem hlt]] at hnext
                generalize Z.getD j Raw.none = r at hc hok hrn hnext
                obtain ⟨r0, r1, r2, r3, r4, r5, r6, r7, r8⟩ := hok
                have bwr : Below w.heap.size w wr := hbE.trans (br.mono (by omega))
                have c0 : wr.cell? ⟨b, o + j * 8, none⟩ = some (.string r.name) := (bwr.cell (p := ⟨b, o + j * 8, none⟩) hbl).trans (hc 0 (by omega))
                have c1 : wr.cell? ⟨b, o + j * 8 + 1, none⟩ = some (.int .u8 r.b0) := (bwr.cell (p := ⟨b, o + j * 8 + 1, none⟩) hbl).trans (hc 1 (by omega))
                have c2 : wr.cell? ⟨b, o + j * 8 + 2, none⟩ = some (.int .u8 r.b1) := (bwr.cell (p := ⟨b, o + j * 8 + 2, none⟩) hbl).trans (hc 2 (by omega))
                have c3 : wr.cell? ⟨b, o + j * 8 + 3, none⟩ = some (.int .u8 r.b2) := (bwr.cell (p := ⟨b, o + j * 8 + 3, none⟩) hbl).trans (hc 3 (by omega))
                have c4 : wr.cell? ⟨b, o + j * 8 + 4, none⟩ = some (.int .u8 r.b3) := (bwr.cell (p := ⟨b, o + j * 8 + 4, none⟩) hbl).trans (hc 4 (by omega))
                have c5 : wr.cell? ⟨b, o + j * 8 + 5, none⟩ = some (.int .u16 r.port) := (bwr.cell (p := ⟨b, o + j * 8 + 5, none⟩) hbl).trans (hc 5 (by omega))
                have c6 : wr.cell? ⟨b, o + j * 8 + 6, none⟩ = some (.int .u8 r.st) := (bwr.cell (p := ⟨b, o + j * 8 + 6, none⟩) hbl).trans (hc 6 (by omega))
                have c7 : wr.cell? ⟨b, o + j * 8 + 7, none⟩ = some (.int .u64 r.inc) := (bwr.cell (p := ⟨b, o + j * 8 + 7, none⟩) hbl).trans (hc 7 (by omega))
                clear hc
                have hbx := alloc_at wr (.cells #[.string r.name, .int .u8 r.b0, .int .u8 r.b1, .int .u8 r.b2, .int .u8 r.b3, .int .u16 r.port, .int .u8 r.st, .int .u64 r.inc] 28)
                have KX : Kept [] wr (wr.alloc (.cells #[.string r.name, .int .u8 r.b0, .int .u8 r.b1, .int .u8 r.b2, .int .u8 r.b3, .int .u16 r.port, .int .u8 r.st, .int .u64 r.inc] 28)) := Kept.alloc _ _ _
                have svr : (wr.alloc (.cells #[.string r.name, .int .u8 r.b0, .int .u8 r.b1, .int .u8 r.b2, .int .u8 r.b3, .int .u16 r.port, .int .u8 r.st, .int .u64 r.inc] 28)).cell? ⟨0, 0, none⟩ = some (.slice (some ⟨gs, os, none⟩) 4 cs) := KX.cell (hst.below bwr (by omega) hgs).var (by simp)
                have s6 : (wr.alloc (.cells #[.string r.name, .int .u8 r.b0, .int .u8 r.b1, .int .u8 r.b2, .int .u8 r.b3, .int .u16 r.port, .int .u8 r.st, .int .u64 r.inc] 28)).cell? ⟨wr.heap.size, 6, none⟩ = some (.int .u8 r.st) := cell_at hbx 6 rfl
                have hnb : wr.heap.size ∉ u18.ownBlock.toList := fun h => by have := owns_lt or h; omega
                have oX := KX.owns or (by simp)
                have zX := KX.size
                have lX := lt_of_at hbx
                have tm : (r.st : Int).tmod 4 = ((r.st % 4 : Nat) : Int) := by rw [Int.tmod_eq_emod_of_nonneg (by omega)]; omega
                go_wp2_with (at_builtin; refine wpList_bytes rfl (.tmp 133) (.tmp 141) 49 (by rfl) we.heap.size i5 Ybaf.underlying49 hi5 hx0 hx1 hx2 u18 _ ([77, 115, 1, 3] ++ (((be seq 4 ++ [(g.size : Int) % 256] ++ nums g ++ [t0, t1, t2, t3] ++ be tp 2) ++ [(Z.length : Int) % 256]) ++ encAll ((Z.map Raw.ent).take j))) (by rfl) rfl (oX.alloc _) ⟨wr.heap.size + 1, 0, none⟩ 1 1 [(r.st : Int) % 4] (by rfl) rfl (by omega) ?news (by omega) (by simp; omega) ?_)
                case news =>
                  rw [show wr.heap.size + 1 = (wr.alloc (.cells #[.string r.name, .int .u8 r.b0, .int .u8 r.b1, .int .u8 r.b2, .int .u8 r.b3, .int .u16 r.port, .int .u8 r.st, .int .u64 r.inc] 28)).heap.size by simp]
                  exact World.news_of_block (cs := #[.int .u8 ((r.st : Int) % 4)]) (alloc_at _ _)
                intro va1 wa1 D1
                replace D1 : Appended we.heap.size u18 ([77, 115, 1, 3] ++ (((be seq 4 ++ [(g.size : Int) % 256] ++ nums g ++ [t0, t1, t2, t3] ++ be tp 2) ++ [(Z.length : Int) % 256]) ++ encAll ((Z.map Raw.ent).take j))) [(r.st : Int) % 4] ((wr.alloc (.cells #[.string r.name, .int .u8 r.b0, .int .u8 r.b1, .int .u8 r.b2, .int .u8 r.b3, .int .u16 r.port, .int .u8 r.st, .int .u64 r.inc] 28)).alloc (.cells #[.int .u8 ((r.st : Int) % 4)] 5)) va1 wa1 := by first | exact D1 | simpa using D1
                have F1 := D1.of_kept (Kept.alloc [] _ _)
                obtain ⟨n1, l1⟩ := F1.avoid hnb lX
                have y1 := F1.2.1.at hbx hnb
                have P1 := F1.owns
                have zz1 := F1.2.1.size
                have ln1 : ([77, 115, 1, 3] ++ (((be seq 4 ++ [(g.size : Int) % 256] ++ nums g ++ [t0, t1, t2, t3] ++ be tp 2) ++ [(Z.length : Int) % 256]) ++ encAll ((Z.map Raw.ent).take j)) ++ [(r.st : Int) % 4]).length ≤ 350001 := by rw [List.length_append]; simp only [List.length_cons, List.length_nil]; omega
                have e1 : wa1.cell? ⟨wr.heap.size, 7, none⟩ = some (.int .u64 r.inc) := cell_at y1 7 rfl
                clear D1 oX c0 c1 c2 c3 c4 c5 c6 c7 s6 svr
                go_wp2_with fail
                refine (put_any we.heap.size va1 _ r.inc 8 r7 r8 (by omega) _ P1 (by omega) (by omega)).mono ?_
                rintro _ wa2 ⟨va2, rfl, D2⟩
                obtain ⟨n2, l2'⟩ := D2.avoid n1 l1
                have y2 := D2.2.1.at y1 n1
                have P2 := D2.owns
                have zz2 := D2.2.1.size
                have e2 : wa2.cell? ⟨wr.heap.size, 0, none⟩ = some (.string r.name) := cell_at y2 0 rfl
                have ln2 : (([77, 115, 1, 3] ++ (((be seq 4 ++ [(g.size : Int) % 256] ++ nums g ++ [t0, t1, t2, t3] ++ be tp 2) ++ [(Z.length : Int) % 256]) ++ encAll ((Z.map Raw.ent).take j)) ++ [(r.st : Int) % 4]) ++ be r.inc 8).length ≤ 350009 := by rw [List.length_append, be_length]; omega
                clear e1
                go_wp2_with (at_builtin; refine wpList_bytes rfl (.tmp 147) (.tmp 152) 49 (by rfl) we.heap.size i5 Ybaf.underlying49 hi5 hx0 hx1 hx2 va2 _ (([77, 115, 1, 3] ++ (((be seq 4 ++ [(g.size : Int) % 256] ++ nums g ++ [t0, t1, t2, t3] ++ be tp 2) ++ [(Z.length : Int) % 256]) ++ encAll ((Z.map Raw.ent).take j)) ++ [(r.st : Int) % 4]) ++ be r.inc 8) (by rfl) rfl (P2.alloc _) ⟨wa2.heap.size, 0, none⟩ 1 1 [(r.name.size : Int) % 256] (by rfl) rfl (by omega) ?news (by omega) (by simp; omega) ?_)
                case news => first | exact World.news_of_block (cs := #[.int .u8 ((r.name.size : Int) % 256)]) (alloc_at _ _) | (simp [bs]; done)
                intro va3 wa3 D3
                replace D3 : Appended we.heap.size va2 (([77, 115, 1, 3] ++ (((be seq 4 ++ [(g.size : Int) % 256] ++ nums g ++ [t0, t1, t2, t3] ++ be tp 2) ++ [(Z.length : Int) % 256]) ++ encAll ((Z.map Raw.ent).take j)) ++ [(r.st : Int) % 4]) ++ be r.inc 8) [(r.name.size : Int) % 256] (wa2.alloc (.cells #[.int .u8 ((r.name.size : Int) % 256)] 5)) va3 wa3 := by first | exact D3 | simpa using D3
                have F3 := D3.of_kept (Kept.alloc [] _ _)
                obtain ⟨n3, l3'⟩ := F3.avoid n2 l2'
                have y3 := F3.2.1.at y2 n2
                have P3 := F3.owns
                have zz3 := F3.2.1.size
                have e3 : wa3.cell? ⟨wr.heap.size, 0, none⟩ = some (.string r.name) := cell_at y3 0 rfl
                have ln3 : ((([77, 115, 1, 3] ++ (((be seq 4 ++ [(g.size : Int) % 256] ++ nums g ++ [t0, t1, t2, t3] ++ be tp 2) ++ [(Z.length : Int) % 256]) ++ encAll ((Z.map Raw.ent).take j)) ++ [(r.st : Int) % 4]) ++ be r.inc 8) ++ [(r.name.size : Int) % 256]).length ≤ 350010 := by rw [List.length_append]; simp only [List.length_cons, List.length_nil]; omega
                clear e2 D3
                go_wp2_with (at_builtin; refine wpList_str rfl (.tmp 154) (.tmp 156) 49 9 (by rfl) we.heap.size i5 Ybaf.underlying49 Ybaf.underlying9 hi5 hx0 hx1 hx2 va3 _ ((([77, 115, 1, 3] ++ (((be seq 4 ++ [(g.size : Int) % 256] ++ nums g ++ [t0, t1, t2, t3] ++ be tp 2) ++ [(Z.length : Int) % 256]) ++ encAll ((Z.map Raw.ent).take j)) ++ [(r.st : Int) % 4]) ++ be r.inc 8) ++ [(r.name.size : Int) % 256]) (by rfl) rfl P3 r.name (by rfl) (by omega) (by omega) ?_)
                intro va4 wa4 D4
                replace D4 : Appended we.heap.size va3 (((([77, 115, 1, 3] ++ (((be seq 4 ++ [(g.size : Int) % 256] ++ nums g ++ [t0, t1, t2, t3] ++ be tp 2) ++ [(Z.length : Int) % 256]) ++ encAll ((Z.map Raw.ent).take j)) ++ [(r.st : Int) % 4]) ++ be r.inc 8)) ++ [(r.name.size : Int) % 256]) (nums r.name) wa3 va4 wa4 := by first | exact D4 | simpa [nums] using D4
                obtain ⟨n4, l4'⟩ := D4.avoid n3 l3'
                have y4 := D4.2.1.at y3 n3
                have P4 := D4.owns
                have zz4 := D4.2.1.size
                have e4 : wa4.cell? ⟨wr.heap.size, 1, none⟩ = some (.int .u8 r.b0) := cell_at y4 1 rfl
                have e5 : wa4.cell? ⟨wr.heap.size, 2, none⟩ = some (.int .u8 r.b1) := cell_at y4 2 rfl
                have e6 : wa4.cell? ⟨wr.heap.size, 3, none⟩ = some (.int .u8 r.b2) := cell_at y4 3 rfl
                have e7 : wa4.cell? ⟨wr.heap.size, 4, none⟩ = some (.int .u8 r.b3) := cell_at y4 4 rfl
                have ln4 : ((([77, 115, 1, 3] ++ (((be seq 4 ++ [(g.size : Int) % 256] ++ nums g ++ [t0, t1, t2, t3] ++ be tp 2) ++ [(Z.length : Int) % 256]) ++ encAll ((Z.map Raw.ent).take j)) ++ [(r.st : Int) % 4]) ++ be r.inc 8) ++ [(r.name.size : Int) % 256] ++ nums r.name).length ≤ 360010 := by rw [List.length_append, nums_length]; omega
                clear e3
                go_wp2_with (at_builtin; refine wpList_bytes rfl (.tmp 158) (.tmp 171) 49 (by rfl) we.heap.size i5 Ybaf.underlying49 hi5 hx0 hx1 hx2 va4 _ ((([77, 115, 1, 3] ++ (((be seq 4 ++ [(g.size : Int) % 256] ++ nums g ++ [t0, t1, t2, t3] ++ be tp 2) ++ [(Z.length : Int) % 256]) ++ encAll ((Z.map Raw.ent).take j)) ++ [(r.st : Int) % 4]) ++ be r.inc 8) ++ [(r.name.size : Int) % 256] ++ nums r.name) (by rfl) rfl (P4.alloc _) ⟨wa4.heap.size, 0, none⟩ 4 4 [r.b0, r.b1, r.b2, r.b3] (by rfl) rfl (by omega) ?news (by omega) (by simp; omega) ?_)
                case news => first | exact World.news_of_block (cs := #[.int .u8 r.b0, .int .u8 r.b1, .int .u8 r.b2, .int .u8 r.b3]) (alloc_at _ _) | (simp [bs]; done)
                intro va5 wa5 D5
                replace D5 : Appended we.heap.size va4 (((([77, 115, 1, 3] ++ (((be seq 4 ++ [(g.size : Int) % 256] ++ nums g ++ [t0, t1, t2, t3] ++ be tp 2) ++ [(Z.length : Int) % 256]) ++ encAll ((Z.map Raw.ent).take j)) ++ [(r.st : Int) % 4]) ++ be r.inc 8)) ++ [(r.name.size : Int) % 256] ++ nums r.name) [r.b0, r.b1, r.b2, r.b3] (wa4.alloc (.cells #[.int .u8 r.b0, .int .u8 r.b1, .int .u8 r.b2, .int .u8 r.b3] 5)) va5 wa5 := by first | exact D5 | simpa using D5
                have F5 := D5.of_kept (Kept.alloc [] _ _)
                obtain ⟨n5, l5'⟩ := F5.avoid n4 l4'
                have y5 := F5.2.1.at y4 n4
                have P5 := F5.owns
                have zz5 := F5.2.1.size
                have e8 : wa5.cell? ⟨wr.heap.size, 5, none⟩ = some (.int .u16 r.port) := cell_at y5 5 rfl
                have ln5 : ((([77, 115, 1, 3] ++ (((be seq 4 ++ [(g.size : Int) % 256] ++ nums g ++ [t0, t1, t2, t3] ++ be tp 2) ++ [(Z.length : Int) % 256]) ++ encAll ((Z.map Raw.ent).take j)) ++ [(r.st : Int) % 4]) ++ be r.inc 8) ++ [(r.name.size : Int) % 256] ++ nums r.name ++ [r.b0, r.b1, r.b2, r.b3]).length ≤ 360014 := by rw [List.length_append]; simp only [List.length_cons, List.length_nil]; omega
                clear e4 e5 e6 e7 D5
                go_wp2_with fail
                refine (put_any we.heap.size va5 _ r.port 2 r4 (by omega) (by omega) _ P5 (by omega) (by omega)).mono ?_
                rintro _ wa6 ⟨va6, rfl, D6⟩
                have T6 := ((((hA.trans (F1.of_kept KX)).trans D2).trans F3).trans D4).trans F5 |>.trans D6
                have eT : ((be seq 4 ++ [(g.size : Int) % 256] ++ nums g ++ [t0, t1, t2, t3] ++ be tp 2) ++ [(Z.length : Int) % 256]) ++ encAll ((Z.map Raw.ent).take j) ++ [(r.st : Int) % 4] ++ be r.inc 8 ++ [(r.name.size : Int) % 256] ++ nums r.name ++ [r.b0, r.b1, r.b2, r.b3] ++ be r.port 2 = ((be seq 4 ++ [(g.size : Int) % 256] ++ nums g ++ [t0, t1, t2, t3] ++ be tp 2) ++ [(Z.length : Int) % 256]) ++ encAll ((Z.map Raw.ent).take (j + 1)) := by
                  rw [hnext]; simp [encE, Raw.ent, ip_bytes r.b0 r.b1 r.b2 r.b3 r0 r1 r2 r3]
                replace T6 := eT ▸ T6
                clear eT D2 D4 D6 F1 F3 F5 P1 P2 P3 P4 P5 y1 y2 y3 y4 y5 hA or hnext hbx e8
                go_wp2_with fail
                go_roundw
                case rel => exact ⟨j + 1, by omega, by go_num, T6⟩
                case measure => simp [intOf] <;> omega
              · obtain rfl : j = Z.length := by omega
                have hT : (Z.map Raw.ent).take Z.length = Z.map Raw.ent := List.take_of_length_le (by simp)
                rw [hT] at hA or
                have hEE : [77, 115, 1, 3] ++ (((be seq 4 ++ [(g.size : Int) % 256] ++ nums g ++ [t0, t1, t2, t3] ++ be tp 2) ++ [(Z.length : Int) % 256]) ++ encAll (Z.map Raw.ent)) = encH 3 seq g (lo4 t0 t1 t2 t3) tp (Z.map Raw.ent).length ++ encAll (Z.map Raw.ent) := by
                  rw [← List.append_assoc, eH.out, List.length_map]
                rw [hEE] at or
                have hK0 : Kept [we.heap.size] we wr := (Kept.alloc _ _ _).trans (by simpa [Value.ownBlock] using hA.2.1)
                have hg2 := hK0.owns hgot' (fun x hx => by
                  have := hgotlt x hx
                  simp; omega)
                have hlen : 0 < (encH 3 seq g (lo4 t0 t1 t2 t3) tp (Z.map Raw.ent).length ++ encAll (Z.map Raw.ent)).length := by simp [encH]
                go_wp2_with fail
                refine (equal_same _ _ _ _ _ wr hg2 or hlen).mono ?_
                rintro _ _ ⟨rfl, rfl⟩
                go_wp2_with fail
                go_ret
                exact ⟨rfl, hbE.trans (br.mono (by omega))⟩
          · have C5 := C3
            have o5 := o3
            have z5 := z3
            have b5 := b3
            clear C3 o3 z3 b3
            have l5 : ([77, 115, 1, k] ++ (be seq 4 ++ [(g.size : Int) % 256] ++ nums g)).length ≤ 1100 := by simp [be_length, nums_length]; omega
            go_wp2_with (at_builtin; refine wpList_bytes rfl (.tmp 121) (.tmp 125) 49 (by rfl) we.heap.size i5 Ybaf.underlying49 hi5 hx0 hx1 hx2 v3 _ ([77, 115, 1, k] ++ (be seq 4 ++ [(g.size : Int) % 256] ++ nums g)) (by rfl) rfl (o5.alloc _) ⟨w3.heap.size, 0, none⟩ 1 1 [(Z.length : Int) % 256] (by rfl) rfl (by omega) ?news (by omega) (by simp; omega) ?_)
            case news => first | exact World.news_of_block (cs := #[.int .u8 ((Z.length : Int) % 256)]) (alloc_at _ _) | (simp [bs]; done)
            intro v6 w6 A6
            replace A6 : Appended we.heap.size v3 ([77, 115, 1, k] ++ (be seq 4 ++ [(g.size : Int) % 256] ++ nums g)) [(Z.length : Int) % 256] (w3.alloc (.cells #[.int .u8 ((Z.length : Int) % 256)] 5)) v6 w6 := by first | exact A6 | simpa using A6
            have C6 := C5.trans (A6.of_kept (Kept.alloc _ _ _))
            have eH : [77, 115, 1, k] ++ ((be seq 4 ++ [(g.size : Int) % 256] ++ nums g) ++ [(Z.length : Int) % 256]) = encH k seq g (lo4 t0 t1 t2 t3) tp Z.length := by
              simp [encH, hk]
            obtain ⟨b6, z6, o6⟩ := step.out _ _ _ C6
            replace eH : Hid _ := eH
            clear A6 o5 C5 b5 z5 l5
            go_wp2_with fail
            go_loopw [18, 129] (fun b i wr => ∃ j : Nat, j ≤ Z.length ∧ i = .int .i64 j ∧ Appended we.heap.size (.slice (some ⟨we.heap.size, 0, none⟩) 4 4) [77, 115, 1, k] (((be seq 4 ++ [(g.size : Int) % 256] ++ nums g) ++ [(Z.length : Int) % 256]) ++ encAll ((Z.map Raw.ent).take j)) (we.alloc (.cells #[.int .u8 77, .int .u8 115, .int .u8 1, .int .u8 k] 5)) b wr) (fun _ i _ => Z.length - (intOf i).toNat)
            case atStart => exact ⟨0, Nat.zero_le _, rfl, by simpa [encAll] using C6⟩
            clear C6 b6 z6 o6
            case round =>
              obtain ⟨j, hj, rfl, hA⟩ := hrel
              obtain ⟨br, zr, or⟩ := step.out _ _ _ hA
              have hlr : ([77, 115, 1, k] ++ (((be seq 4 ++ [(g.size : Int) % 256] ++ nums g) ++ [(Z.length : Int) % 256]) ++ encAll ((Z.map Raw.ent).take j))).length ≤ 350000 := by
                have h1 := eH.out
                have h2 := encAll_len (k := k) (seq := seq) (g := g) (x := lo4 t0 t1 t2 t3) (p := tp) (j := j) hEok hg (by simpa using hn) (by simpa using hj)
                rw [List.length_map, ← h1] at h2
                rw [← List.append_assoc]; exact h2
              by_cases hlt : j < Z.length
              · obtain ⟨b, o, rfl, hbl, hc⟩ := hR j hlt
                have hok := hZ (Z.getD j Raw.none) (getD_memR hlt)
                have hrn := hnm.out j hlt
                have hnext := encAll_next (Z.map Raw.ent) j (by simpa using hlt)
                rw [show (Z.map Raw.ent).getD j ⟨.empty, 0, 0, 0, 0⟩ = (Z.getD j Raw.none).ent by simp [List.getD_eq_getElem?_getD, List.getElem?_eq_getElem hlt]] at hnext
                generalize Z.getD j Raw.none = r at hc hok hrn hnext
                obtain ⟨r0, r1, r2, r3, r4, r5, r6, r7, r8⟩ := hok
                have bwr : Below w.heap.size w wr := hbE.trans (br.mono (by omega))
                have c0 : wr.cell? ⟨b, o + j * 8, none⟩ = some (.string r.name) := (bwr.cell (p := ⟨b, o + j * 8, none⟩) hbl).trans (hc 0 (by omega))
                have c1 : wr.cell? ⟨b, o + j * 8 + 1, none⟩ = some (.int .u8 r.b0) := (bwr.cell (p := ⟨b, o + j * 8 + 1, none⟩) hbl).trans (hc 1 (by omega))
                have c2 : wr.cell? ⟨b, o + j * 8 + 2, none⟩ = some (.int .u8 r.b1) := (bwr.cell (p := ⟨b, o + j * 8 + 2, none⟩) hbl).trans (hc 2 (by omega))
                have c3 : wr.cell? ⟨b, o + j * 8 + 3, none⟩ = some (.int .u8 r.b2) := (bwr.cell (p := ⟨b, o + j * 8 + 3, none⟩) hbl).trans (hc 3 (by omega))
                have c4 : wr.cell? ⟨b, o + j * 8 + 4, none⟩ = some (.int .u8 r.b3) := (bwr.cell (p := ⟨b, o + j * 8 + 4, none⟩) hbl).trans (hc 4 (by omega))
                have c5 : wr.cell? ⟨b, o + j * 8 + 5, none⟩ = some (.int .u16 r.port) := (bwr.cell (p := ⟨b, o + j * 8 + 5, none⟩) hbl).trans (hc 5 (by omega))
                have c6 : wr.cell? ⟨b, o + j * 8 + 6, none⟩ = some (.int .u8 r.st) := (bwr.cell (p := ⟨b, o + j * 8 + 6, none⟩) hbl).trans (hc 6 (by omega))
                have c7 : wr.cell? ⟨b, o + j * 8 + 7, none⟩ = some (.int .u64 r.inc) := (bwr.cell (p := ⟨b, o + j * 8 + 7, none⟩) hbl).trans (hc 7 (by omega))
                clear hc
                have hbx := alloc_at wr (.cells #[.string r.name, .int .u8 r.b0, .int .u8 r.b1, .int .u8 r.b2, .int .u8 r.b3, .int .u16 r.port, .int .u8 r.st, .int .u64 r.inc] 28)
                have KX : Kept [] wr (wr.alloc (.cells #[.string r.name, .int .u8 r.b0, .int .u8 r.b1, .int .u8 r.b2, .int .u8 r.b3, .int .u16 r.port, .int .u8 r.st, .int .u64 r.inc] 28)) := Kept.alloc _ _ _
                have svr : (wr.alloc (.cells #[.string r.name, .int .u8 r.b0, .int .u8 r.b1, .int .u8 r.b2, .int .u8 r.b3, .int .u16 r.port, .int .u8 r.st, .int .u64 r.inc] 28)).cell? ⟨0, 0, none⟩ = some (.slice (some ⟨gs, os, none⟩) 4 cs) := KX.cell (hst.below bwr (by omega) hgs).var (by simp)
                have s6 : (wr.alloc (.cells #[.string r.name, .int .u8 r.b0, .int .u8 r.b1, .int .u8 r.b2, .int .u8 r.b3, .int .u16 r.port, .int .u8 r.st, .int .u64 r.inc] 28)).cell? ⟨wr.heap.size, 6, none⟩ = some (.int .u8 r.st) := cell_at hbx 6 rfl
                have hnb : wr.heap.size ∉ u18.ownBlock.toList := fun h => by have := owns_lt or h; omega
                have oX := KX.owns or (by simp)
                have zX := KX.size
                have lX := lt_of_at hbx
                have tm : (r.st : Int).tmod 4 = ((r.st % 4 : Nat) : Int) := by rw [Int.tmod_eq_emod_of_nonneg (by omega)]; omega
                go_wp2_with (at_builtin; refine wpList_bytes rfl (.tmp 133) (.tmp 141) 49 (by rfl) we.heap.size i5 Ybaf.underlying49 hi5 hx0 hx1 hx2 u18 _ ([77, 115, 1, k] ++ (((be seq 4 ++ [(g.size : Int) % 256] ++ nums g) ++ [(Z.length : Int) % 256]) ++ encAll ((Z.map Raw.ent).take j))) (by rfl) rfl (oX.alloc _) ⟨wr.heap.size + 1, 0, none⟩ 1 1 [(r.st : Int) % 4] (by rfl) rfl (by omega) ?news (by omega) (by simp; omega) ?_)
                case news =>
                  rw [show wr.heap.size + 1 = (wr.alloc (.cells #[.string r.name, .int .u8 r.b0, .int .u8 r.b1, .int .u8 r.b2, .int .u8 r.b3, .int .u16 r.port, .int .u8 r.st, .int .u64 r.inc] 28)).heap.size by simp]
                  exact World.news_of_block (cs := #[.int .u8 ((r.st : Int) % 4)]) (alloc_at _ _)
                intro va1 wa1 D1
                replace D1 : Appended we.heap.size u18 ([77, 115, 1, k] ++ (((be seq 4 ++ [(g.size : Int) % 256] ++ nums g) ++ [(Z.length : Int) % 256]) ++ encAll ((Z.map Raw.ent).take j))) [(r.st : Int) % 4] ((wr.alloc (.cells #[.string r.name, .int .u8 r.b0, .int .u8 r.b1, .int .u8 r.b2, .int .u8 r.b3, .int .u16 r.port, .int .u8 r.st, .int .u64 r.inc] 28)).alloc (.cells #[.int .u8 ((r.st : Int) % 4)] 5)) va1 wa1 := by first | exact D1 | simpa using D1
                have F1 := D1.of_kept (Kept.alloc [] _ _)
                obtain ⟨n1, l1⟩ := F1.avoid hnb lX
                have y1 := F1.2.1.at hbx hnb
                have P1 := F1.owns
                have zz1 := F1.2.1.size
                have ln1 : ([77, 115, 1, k] ++ (((be seq 4 ++ [(g.size : Int) % 256] ++ nums g) ++ [(Z.length : Int) % 256]) ++ encAll ((Z.map Raw.ent).take j)) ++ [(r.st : Int) % 4]).length ≤ 350001 := by rw [List.length_append]; simp only [List.length_cons, List.length_nil]; omega
                have e1 : wa1.cell? ⟨wr.heap.size, 7, none⟩ = some (.int .u64 r.inc) := cell_at y1 7 rfl
                clear D1 oX c0 c1 c2 c3 c4 c5 c6 c7 s6 svr
                go_wp2_with fail
                refine (put_any we.heap.size va1 _ r.inc 8 r7 r8 (by omega) _ P1 (by omega) (by omega)).mono ?_
                rintro _ wa2 ⟨va2, rfl, D2⟩
                obtain ⟨n2, l2'⟩ := D2.avoid n1 l1
                have y2 := D2.2.1.at y1 n1
                have P2 := D2.owns
                have zz2 := D2.2.1.size
                have e2 : wa2.cell? ⟨wr.heap.size, 0, none⟩ = some (.string r.name) := cell_at y2 0 rfl
                have ln2 : (([77, 115, 1, k] ++ (((be seq 4 ++ [(g.size : Int) % 256] ++ nums g) ++ [(Z.length : Int) % 256]) ++ encAll ((Z.map Raw.ent).take j)) ++ [(r.st : Int) % 4]) ++ be r.inc 8).length ≤ 350009 := by rw [List.length_append, be_length]; omega
                clear e1
                go_wp2_with (at_builtin; refine wpList_bytes rfl (.tmp 147) (.tmp 152) 49 (by rfl) we.heap.size i5 Ybaf.underlying49 hi5 hx0 hx1 hx2 va2 _ (([77, 115, 1, k] ++ (((be seq 4 ++ [(g.size : Int) % 256] ++ nums g) ++ [(Z.length : Int) % 256]) ++ encAll ((Z.map Raw.ent).take j)) ++ [(r.st : Int) % 4]) ++ be r.inc 8) (by rfl) rfl (P2.alloc _) ⟨wa2.heap.size, 0, none⟩ 1 1 [(r.name.size : Int) % 256] (by rfl) rfl (by omega) ?news (by omega) (by simp; omega) ?_)
                case news => first | exact World.news_of_block (cs := #[.int .u8 ((r.name.size : Int) % 256)]) (alloc_at _ _) | (simp [bs]; done)
                intro va3 wa3 D3
                replace D3 : Appended we.heap.size va2 (([77, 115, 1, k] ++ (((be seq 4 ++ [(g.size : Int) % 256] ++ nums g) ++ [(Z.length : Int) % 256]) ++ encAll ((Z.map Raw.ent).take j)) ++ [(r.st : Int) % 4]) ++ be r.inc 8) [(r.name.size : Int) % 256] (wa2.alloc (.cells #[.int .u8 ((r.name.size : Int) % 256)] 5)) va3 wa3 := by first | exact D3 | simpa using D3
                have F3 := D3.of_kept (Kept.alloc [] _ _)
                obtain ⟨n3, l3'⟩ := F3.avoid n2 l2'
                have y3 := F3.2.1.at y2 n2
                have P3 := F3.owns
                have zz3 := F3.2.1.size
                have e3 : wa3.cell? ⟨wr.heap.size, 0, none⟩ = some (.string r.name) := cell_at y3 0 rfl
                have ln3 : ((([77, 115, 1, k] ++ (((be seq 4 ++ [(g.size : Int) % 256] ++ nums g) ++ [(Z.length : Int) % 256]) ++ encAll ((Z.map Raw.ent).take j)) ++ [(r.st : Int) % 4]) ++ be r.inc 8) ++ [(r.name.size : Int) % 256]).length ≤ 350010 := by rw [List.length_append]; simp only [List.length_cons, List.length_nil]; omega
                clear e2 D3
                go_wp2_with (at_builtin; refine wpList_str rfl (.tmp 154) (.tmp 156) 49 9 (by rfl) we.heap.size i5 Ybaf.underlying49 Ybaf.underlying9 hi5 hx0 hx1 hx2 va3 _ ((([77, 115, 1, k] ++ (((be seq 4 ++ [(g.size : Int) % 256] ++ nums g) ++ [(Z.length : Int) % 256]) ++ encAll ((Z.map Raw.ent).take j)) ++ [(r.st : Int) % 4]) ++ be r.inc 8) ++ [(r.name.size : Int) % 256]) (by rfl) rfl P3 r.name (by rfl) (by omega) (by omega) ?_)
                intro va4 wa4 D4
                replace D4 : Appended we.heap.size va3 (((([77, 115, 1, k] ++ (((be seq 4 ++ [(g.size : Int) % 256] ++ nums g) ++ [(Z.length : Int) % 256]) ++ encAll ((Z.map Raw.ent).take j)) ++ [(r.st : Int) % 4]) ++ be r.inc 8)) ++ [(r.name.size : Int) % 256]) (nums r.name) wa3 va4 wa4 := by first | exact D4 | simpa [nums] using D4
                obtain ⟨n4, l4'⟩ := D4.avoid n3 l3'
                have y4 := D4.2.1.at y3 n3
                have P4 := D4.owns
                have zz4 := D4.2.1.size
                have e4 : wa4.cell? ⟨wr.heap.size, 1, none⟩ = some (.int .u8 r.b0) := cell_at y4 1 rfl
                have e5 : wa4.cell? ⟨wr.heap.size, 2, none⟩ = some (.int .u8 r.b1) := cell_at y4 2 rfl
                have e6 : wa4.cell? ⟨wr.heap.size, 3, none⟩ = some (.int .u8 r.b2) := cell_at y4 3 rfl
                have e7 : wa4.cell? ⟨wr.heap.size, 4, none⟩ = some (.int .u8 r.b3) := cell_at y4 4 rfl
                have ln4 : ((([77, 115, 1, k] ++ (((be seq 4 ++ [(g.size : Int) % 256] ++ nums g) ++ [(Z.length : Int) % 256]) ++ encAll ((Z.map Raw.ent).take j)) ++ [(r.st : Int) % 4]) ++ be r.inc 8) ++ [(r.name.size : Int) % 256] ++ nums r.name).length ≤ 360010 := by rw [List.length_append, nums_length]; omega
                clear e3
                go_wp2_with (at_builtin; refine wpList_bytes rfl (.tmp 158) (.tmp 171) 49 (by rfl) we.heap.size i5 Ybaf.underlying49 hi5 hx0 hx1 hx2 va4 _ ((([77, 115, 1, k] ++ (((be seq 4 ++ [(g.size : Int) % 256] ++ nums g) ++ [(Z.length : Int) % 256]) ++ encAll ((Z.map Raw.ent).take j)) ++ [(r.st : Int) % 4]) ++ be r.inc 8) ++ [(r.name.size : Int) % 256] ++ nums r.name) (by rfl) rfl (P4.alloc _) ⟨wa4.heap.size, 0, none⟩ 4 4 [r.b0, r.b1, r.b2, r.b3] (by rfl) rfl (by omega) ?news (by omega) (by simp; omega) ?_)
                case news => first | exact World.news_of_block (cs := #[.int .u8 r.b0, .int .u8 r.b1, .int .u8 r.b2, .int .u8 r.b3]) (alloc_at _ _) | (simp [bs]; done)
                intro va5 wa5 D5
                replace D5 : Appended we.heap.size va4 (((([77, 115, 1, k] ++ (((be seq 4 ++ [(g.size : Int) % 256] ++ nums g) ++ [(Z.length : Int) % 256]) ++ encAll ((Z.map Raw.ent).take j)) ++ [(r.st : Int) % 4]) ++ be r.inc 8)) ++ [(r.name.size : Int) % 256] ++ nums r.name) [r.b0, r.b1, r.b2, r.b3] (wa4.alloc (.cells #[.int .u8 r.b0, .int .u8 r.b1, .int .u8 r.b2, .int .u8 r.b3] 5)) va5 wa5 := by first | exact D5 | simpa using D5
                have F5 := D5.of_kept (Kept.alloc [] _ _)
                obtain ⟨n5, l5'⟩ := F5.avoid n4 l4'
                have y5 := F5.2.1.at y4 n4
                have P5 := F5.owns
                have zz5 := F5.2.1.size
                have e8 : wa5.cell? ⟨wr.heap.size, 5, none⟩ = some (.int .u16 r.port) := cell_at y5 5 rfl
                have ln5 : ((([77, 115, 1, k] ++ (((be seq 4 ++ [(g.size : Int) % 256] ++ nums g) ++ [(Z.length : Int) % 256]) ++ encAll ((Z.map Raw.ent).take j)) ++ [(r.st : Int) % 4]) ++ be r.inc 8) ++ [(r.name.size : Int) % 256] ++ nums r.name ++ [r.b0, r.b1, r.b2, r.b3]).length ≤ 360014 := by rw [List.length_append]; simp only [List.length_cons, List.length_nil]; omega
                clear e4 e5 e6 e7 D5
                go_wp2_with fail
                refine (put_any we.heap.size va5 _ r.port 2 r4 (by omega) (by omega) _ P5 (by omega) (by omega)).mono ?_
                rintro _ wa6 ⟨va6, rfl, D6⟩
                have T6 := ((((hA.trans (F1.of_kept KX)).trans D2).trans F3).trans D4).trans F5 |>.trans D6
                have eT : ((be seq 4 ++ [(g.size : Int) % 256] ++ nums g) ++ [(Z.length : Int) % 256]) ++ encAll ((Z.map Raw.ent).take j) ++ [(r.st : Int) % 4] ++ be r.inc 8 ++ [(r.name.size : Int) % 256] ++ nums r.name ++ [r.b0, r.b1, r.b2, r.b3] ++ be r.port 2 = ((be seq 4 ++ [(g.size : Int) % 256] ++ nums g) ++ [(Z.length : Int) % 256]) ++ encAll ((Z.map Raw.ent).take (j + 1)) := by
                  rw [hnext]; simp [encE, Raw.ent, ip_bytes r.b0 r.b1 r.b2 r.b3 r0 r1 r2 r3]
                replace T6 := eT ▸ T6
                clear eT D2 D4 D6 F1 F3 F5 P1 P2 P3 P4 P5 y1 y2 y3 y4 y5 hA or hnext hbx e8
                go_wp2_with fail
                go_roundw
                case rel => exact ⟨j + 1, by omega, by go_num, T6⟩
                case measure => simp [intOf] <;> omega
              · obtain rfl : j = Z.length := by omega
                have hT : (Z.map Raw.ent).take Z.length = Z.map Raw.ent := List.take_of_length_le (by simp)
                rw [hT] at hA or
                have hEE : [77, 115, 1, k] ++ (((be seq 4 ++ [(g.size : Int) % 256] ++ nums g) ++ [(Z.length : Int) % 256]) ++ encAll (Z.map Raw.ent)) = encH k seq g (lo4 t0 t1 t2 t3) tp (Z.map Raw.ent).length ++ encAll (Z.map Raw.ent) := by
                  rw [← List.append_assoc, eH.out, List.length_map]
                rw [hEE] at or
                have hK0 : Kept [we.heap.size] we wr := (Kept.alloc _ _ _).trans (by simpa [Value.ownBlock] using hA.2.1)
                have hg2 := hK0.owns hgot' (fun x hx => by
                  have := hgotlt x hx
                  simp; omega)
                have hlen : 0 < (encH k seq g (lo4 t0 t1 t2 t3) tp (Z.map Raw.ent).length ++ encAll (Z.map Raw.ent)).length := by simp [encH]
                go_wp2_with fail
                refine (equal_same _ _ _ _ _ wr hg2 or hlen).mono ?_
                rintro _ _ ⟨rfl, rfl⟩
                go_wp2_with fail
                go_ret
                exact ⟨rfl, hbE.trans (br.mono (by omega))⟩
end Go.Proofs.YbulkcqnmFmt
