import Derived.Test.YbulkcqoaView
import Derived.LaidEqlPtr
import Derived.WalkSpells
namespace Go.Proofs.Ybulkcqoa
set_option linter.unusedVariables false
set_option linter.unusedSimpArgs false
open Go.RowKit

theorem Yba.info27 : (Yba.prog.info? 27).map (fun i => (i.zero, i.size, i.bytes)) = some (some (.pointer none), 1, 8) := by kernel_rfl

theorem Yba.size34 : (Yba.prog.info? 34).map (fun i => i.size) = some 4 := by kernel_rfl
theorem Yba.size29 : (Yba.prog.info? 29).map (fun i => i.size) = some 3 := by kernel_rfl

theorem run_neq_ptr_same {P : Program} (w : World) {tp te : TypeId} {j : TypeInfo} (a : Addr) (hp : P.underlying tp = some (.pointer te)) (hte : P.info? te = some j) :
    (binOp .neq tp (.pointer (some a)) (.pointer (some a))).run P w = .ok (.bool false) w := by
  have h : ∀ d : Nat, (Op.equalIn (d + 1) tp (.pointer (some a)) (.pointer (some a))).run P w = .ok true w := fun d => by
    simp [Op.equalIn, run_underlying hp, sizeOf, typeInfo, hte, run_sameAddr_same]
  simp only [binOp]
  simp [Op.equal, Op.maxDepth, h 9999]

theorem bytes_ne {a b : ByteArray} (h : a ≠ b) : (a.toList == b.toList) = false := by
  rw [beq_eq_false_iff_ne]
  intro h'
  rw [ByteArray.toList_eq, ByteArray.toList_eq] at h'
  exact h (WideShapes.bytes_inj h')
theorem cntK_le (p : Nat → ByteArray) (key : ByteArray) : ∀ j, cntK p key j ≤ j
  | 0 => Nat.le_refl _
  | j + 1 => by
    have := cntK_le p key j
    simp only [cntK]
    split
    · omega
    · split <;> omega

theorem mkEnts (n : Nat) (hn : n ≤ 2000) : ∃ A : Array Value, A.size = n ∧ ∀ w : World, (Instr.makeSlice 26 (.int .i64 (n : Int)) (.int .i64 (n : Int))).run Yba.prog w = .ok (.slice (some ⟨w.heap.size, 0, none⟩) n n) (w.alloc (.cells A 27)) := by
  obtain ⟨i0, hi, hy0, hy1, hy2⟩ := info_parts Yba.info27
  refine ⟨madeCells (Value.pointer none).cells (n * i0.size), by rw [hy1]; simp [madeCells], fun w => ?_⟩
  have := run_makeSlice w 26 27 i0 (.pointer none) Yba.underlying26 hi hy0 .i64 .i64 (n : Int) (n : Int) (by omega) (by omega) (by rw [hy1]; simp; omega) (by rw [hy2]; omega) (by omega)
  simpa using this

/-- The table behind j sets. -/
structure Filled (Z : List ByteArray) (tline : Int) (mb tb eb : Nat) (w : World) (j : Nat) (wr : World) (v : Value) (A : Array Value) (en : Nat → Nat) : Prop where
  le : j ≤ Z.length
  tab : wr.heap[tb]? = some (.cells #[.int .i64 tline, v, .map (some mb), .int .i64 1] 34)
  keys : wr.ownsRow (eb + 1) 9 1 v j ((Z.take j).map .string)
  map : wr.ownsMap Yba.prog 9 ptrElem mb j (Dn (fun i => Z.getD i .empty) en j)
  row : wr.heap[eb]? = some (.cells A 27)
  len : A.size = Z.length
  ents : ∀ i, i < j → A[i]? = some (.pointer (some ⟨en i, 0, none⟩))
  old : ∀ i, i < j → en i < wr.heap.size
  room : eb + 1 ≤ wr.heap.size
  sep : ∀ i, i < j → eb < en i ∧ en i ∉ v.ownBlock.toList ∧ ∃ c t, wr.heap[en i]? = some (.cells c t)
  below : Below w.heap.size w wr

set_option maxRecDepth 20000 in
set_option maxHeartbeats 4000000 in
theorem walk_main (pa : Option Addr) (pc : Nat) (Z : List ByteArray) (key : ByteArray) (kd line tline : Int) (w : World)
    (hn : Z.length ≤ 1024) (hk : key.size ≤ maxLen) (hZ : ∀ s ∈ Z, s.size ≤ maxLen) (hk0 : 0 ≤ kd) (hk1 : kd < 256)
    (hl0 : -9223372036854775808 ≤ line) (hl1 : line ≤ 9223372036854775807) (ht0 : -9223372036854775808 ≤ tline) (ht1 : tline ≤ 9223372036854775807)
    (hp : ∀ i, i < Z.length → ∃ b o, pa = some ⟨b, o, none⟩ ∧ w.cell? ⟨b, o + i, none⟩ = some (.string (Z.getD i .empty))) :
    Calls Yba.prog 3 #[.slice pa Z.length pc, .string key, .int .u8 kd, .int .i64 line, .int .i64 tline] w fun e w' => e = .returned (.bool true) ∧ Below w.heap.size w w' := by
  obtain ⟨A0, hA0, hms⟩ := mkEnts Z.length (by omega)
  go_enter Yba.func3, Yba.ntmps3
  go_wp2_with fail
  refine (newTable_any 1 tline w).mono ?_
  rintro _ w1 ⟨rfl, h1w⟩
  have K1 : Kept [] w w1 := by subst h1w; exact (Kept.alloc _ _ _).trans (Kept.alloc _ _ _)
  have hs1 : w1.heap.size = w.heap.size + 2 := by subst h1w; simp
  have hmp : w1.ownsMap Yba.prog 9 ptrElem w.heap.size 0 (.map []) := by subst h1w; exact (World.ownsMap_made _ _ _ _).alloc _
  have htc : w1.heap[w.heap.size + 1]? = some (.cells #[.int .i64 tline, .slice none 0 0, .map (some w.heap.size), .int .i64 1] 34) := by
    subst h1w
    have := alloc_at (w.alloc (.map #[] 0)) (.cells #[.int .i64 tline, .slice none 0 0, .map (some w.heap.size), .int .i64 1] 34)
    simpa using this
  clear h1w
  go_wp2_with fail
  clear hms
  have K2 : Kept [] w1 (w1.alloc (.cells A0 27)) := Kept.alloc _ _ _
  have hen := alloc_at w1 (.cells A0 27)
  have hs2 : (w1.alloc (.cells A0 27)).heap.size = w1.heap.size + 1 := by simp
  have hmp2 := hmp.alloc (.cells A0 27)
  generalize hW2 : w1.alloc (.cells A0 27) = w2 at *
  have F0 : Filled Z tline w.heap.size (w.heap.size + 1) w1.heap.size w 0 w2 (.slice none 0 0) A0 (fun _ => 0) :=
    ⟨Nat.zero_le _, K2.at htc (by simp), World.ownsRow_nil _ _ _ _, hmp2, hen, hA0, fun i h => by omega, fun i h => by omega, by omega, fun i h => by omega, (K1.trans K2).below (Nat.le_refl _) (by simp)⟩
  rw [hs1] at F0
  clear hW2 hmp2 hen htc hmp K2 K1 hs2 hA0
  go_loopw [40] (fun i wr => ∃ (j : Nat) (v : Value) (A : Array Value) (en : Nat → Nat), i = .int .i64 j ∧ Filled Z tline w.heap.size (w.heap.size + 1) (w.heap.size + 2) w j wr v A en) (fun i _ => Z.length - (intOf i).toNat)
  case atStart => exact ⟨0, _, _, _, rfl, F0⟩
  clear F0
  case round =>
    obtain ⟨j, v, A, en, rfl, F⟩ := hrel
    have hj := F.le
    by_cases hlt : j < Z.length
    · obtain ⟨b, o, rfl, hcell⟩ := hp j hlt
      have c0 : wr.cell? ⟨b, o + j, none⟩ = some (.string (Z.getD j .empty)) := (F.below.cell (p := ⟨b, o + j, none⟩) (World.block_lt_of_cell? w _ hcell)).trans hcell
      have hpj : (Z.getD j .empty).size ≤ maxLen := hZ _ (by rw [List.getD_eq_getElem?_getD, List.getElem?_eq_getElem hlt]; simp)
      have htake : (Z.take (j + 1)).map Value.string = (Z.take j).map Value.string ++ [.string (Z.getD j .empty)] := by
        rw [List.take_succ_eq_append_getElem hlt, List.map_append, List.getD_eq_getElem?_getD, List.getElem?_eq_getElem hlt]; rfl
      have hDn : ∀ en', Dn (fun i => Z.getD i .empty) en' (j + 1) = (Dn (fun i => Z.getD i .empty) en' j).put (.string (Z.getD j .empty).data.toList) (.held (en' j)) := fun _ => rfl
      generalize Z.getD j .empty = pj at c0 hpj htake hDn
      obtain ⟨x, hx⟩ : ∃ x, A[j]? = some x := ⟨A[j]'(by rw [F.len]; exact hlt), by rw [Array.getElem?_eq_getElem]⟩
      have KX : Kept [] wr (wr.alloc (.cells #[.int .i64 j, .nilIface, .bool false] 29)) := Kept.alloc _ _ _
      have rX := KX.at F.row (by simp)
      have hbx := alloc_at wr (.cells #[.int .i64 j, .nilIface, .bool false] 29)
      have dX : (wr.alloc (.cells #[.int .i64 j, .nilIface, .bool false] 29)).cell? ⟨w.heap.size + 2, j, none⟩ = some x := cell_at rX j hx
      have fX : (wr.alloc (.cells #[.int .i64 j, .nilIface, .bool false] 29)).frozen? ⟨w.heap.size + 2, j, none⟩ = false := frozen_at rX j
      go_wp2_with fail
      have KY : Kept [w.heap.size + 2] (wr.alloc (.cells #[.int .i64 j, .nilIface, .bool false] 29)) ((wr.alloc (.cells #[.int .i64 j, .nilIface, .bool false] 29)).setCell ⟨w.heap.size + 2, j, none⟩ (.pointer (some ⟨wr.heap.size, 0, none⟩))) := Kept.setCell _ _ _ (by simp)
      have rY := set_at rX j (.pointer (some ⟨wr.heap.size, 0, none⟩))
      have hsY : wr.heap.size < ((wr.alloc (.cells #[.int .i64 j, .nilIface, .bool false] 29)).setCell ⟨w.heap.size + 2, j, none⟩ (.pointer (some ⟨wr.heap.size, 0, none⟩))).heap.size := by
        have h1 := KY.size
        have h2 : (wr.alloc (.cells #[.int .i64 j, .nilIface, .bool false] 29)).heap.size = wr.heap.size + 1 := by simp
        omega
      generalize hWY : (wr.alloc (.cells #[.int .i64 j, .nilIface, .bool false] 29)).setCell ⟨w.heap.size + 2, j, none⟩ (.pointer (some ⟨wr.heap.size, 0, none⟩)) = wy at *
      have KXY : Kept [w.heap.size + 2] wr wy := (KX.mono (by simp)).trans KY
      have mY : wy.ownsMap Yba.prog 9 ptrElem w.heap.size j (Dn (fun i => Z.getD i .empty) en j) := by
        obtain ⟨es, clock, hb, r⟩ := F.map
        exact ⟨es, clock, KXY.at hb (by simp), r⟩
      have oY := KXY.owns F.keys (fun k hk => by have := (F.keys.lt k hk).1; simp; omega)
      refine (set_any (w.heap.size + 1) w.heap.size (w.heap.size + 3) j tline 1 v _ pj wr.heap.size _ wy (KXY.at F.tab (by simp)) oY mY (by omega) (by omega) (by have := F.room; omega) (by omega) hpj).mono ?_
      rintro _ wz ⟨rfl, v', t3, r3, m3, K3, S3⟩
      clear c0 dX fX hWY
      have own : ∀ x ∈ (w.heap.size + 1) :: w.heap.size :: v.ownBlock.toList, w.heap.size ≤ x ∧ x ≠ w.heap.size + 2 := by
        intro x hx
        rcases List.mem_cons.1 hx with rfl | hx
        · omega
        · rcases List.mem_cons.1 hx with rfl | hx
          · omega
          · have := (F.keys.lt x (by simpa using hx)).1; omega
      have F' : Filled Z tline w.heap.size (w.heap.size + 1) (w.heap.size + 2) w (j + 1) wz v' (A.setIfInBounds j (.pointer (some ⟨wr.heap.size, 0, none⟩))) (fun i => if i = j then wr.heap.size else en i) := by
        refine ⟨hlt, t3, by rw [htake]; exact r3, ?_, K3.at rY (fun h => (own _ h).2 rfl), by simp [F.len], fun i hi => ?_, fun i hi => ?_, ?_, fun i hi => ?_, ?_⟩
        · rw [hDn, Dn_congr (e := fun i => if i = j then wr.heap.size else en i) (e' := en) j (fun i hi => by simp; omega)]
          simpa using m3
        · by_cases hij : i = j
          · subst hij
            simp [F.len, hlt]
          · rw [Array.getElem?_setIfInBounds_ne (by omega)]
            simp [hij]
            exact F.ents i (by omega)
        · have hz := K3.size
          by_cases hij : i = j
          · simp [hij]; omega
          · simp [hij]
            have := F.old i (by omega)
            have := KXY.size
            omega
        · have := F.room; have := KXY.size; have := K3.size; omega
        · have hr := F.room
          have hxy := KXY.size
          by_cases hij : i = j
          · have nw : wr.heap.size ∉ (w.heap.size + 1) :: w.heap.size :: v.ownBlock.toList := by
              intro h
              rcases List.mem_cons.1 h with h | h
              · omega
              · rcases List.mem_cons.1 h with h | h
                · omega
                · have := (F.keys.lt _ (by simpa using h)).2; omega
            refine ⟨by simp [hij]; omega, ?_, _, _, by simp only [hij, if_true]; exact K3.at (KY.at hbx (by simp; omega)) nw⟩
            simp only [hij, if_true]
            intro h
            rcases S3 with h1 | h1
            · rw [h1] at h; exact nw (List.mem_cons_of_mem _ (List.mem_cons_of_mem _ h))
            · have := h1 _ (by simpa using h); omega
          · obtain ⟨s1, s2, c, t, s3⟩ := F.sep i (by omega)
            have hlt2 := lt_of_at s3
            have nw : en i ∉ (w.heap.size + 1) :: w.heap.size :: v.ownBlock.toList := by
              intro h
              rcases List.mem_cons.1 h with h | h
              · omega
              · rcases List.mem_cons.1 h with h | h
                · omega
                · exact s2 h
            simp only [hij, if_false]
            refine ⟨s1, ?_, c, t, K3.at (KXY.at s3 (by simp; omega)) nw⟩
            intro h
            rcases S3 with h1 | h1
            · rw [h1] at h; exact s2 h
            · have := h1 _ (by simpa using h); omega
        · exact F.below.trans ((KXY.below (by have := F.below.size; omega) (by simp)).trans (K3.below (by have := F.below.size; have := KXY.size; omega) (fun x hx => (own x hx).1)))
      go_wp2_with fail
      go_roundw
      case rel => exact ⟨j + 1, _, _, _, by go_num, F'⟩
      case measure => simp [intOf] <;> omega
    · obtain rfl : j = Z.length := by omega
      go_wp2_with fail
      have hroom := F.room
      refine (child_any (w.heap.size + 1) w.heap.size (w.heap.size + 3) Z.length tline 1 (kd % 4) line v _ key _ wr F.tab F.keys F.map (by omega) (by omega) (by omega) (by omega) hk).mono ?_
      rintro _ w3 ⟨rfl, v3, t3, r3, m3, K3, S3, a1, a2, a3⟩
      have lo : ∀ x ∈ (w.heap.size + 1) :: w.heap.size :: v.ownBlock.toList, w.heap.size ≤ x ∧ x ≠ w.heap.size + 2 := by
        intro x hx
        rcases List.mem_cons.1 hx with rfl | hx
        · omega
        · rcases List.mem_cons.1 hx with rfl | hx
          · omega
          · have := (F.keys.lt x (by simpa using hx)).1; omega
      have row3 := K3.at F.row (fun h => (lo _ h).2 rfl)
      have bel3 : Below w.heap.size w w3 := F.below.trans (K3.below (by omega) (fun x hx => (lo x hx).1))
      rw [List.take_length] at r3
      have hents := F.ents
      have hold := F.old
      have hlenA := F.len
      have hsep : ∀ i, i < Z.length → ∃ c t, w3.heap[en i]? = some (.cells c t) := fun i hi => by
        obtain ⟨s1, s2, c, t, s3⟩ := F.sep i hi
        refine ⟨c, t, K3.at s3 ?_⟩
        intro h
        rcases List.mem_cons.1 h with h | h
        · omega
        · rcases List.mem_cons.1 h with h | h
          · omega
          · exact s2 h
      clear F lo K3
      generalize wr.heap.size = N at *
      obtain ⟨i34, hi34, hz34⟩ := Option.map_eq_some_iff.1 Yba.size34
      obtain ⟨i29, hi29, hz29⟩ := Option.map_eq_some_iff.1 Yba.size29
      have q23 := run_eql_ptr_other w3 (tp := 23) (te := 34) (a := ⟨N + 1, 0, none⟩) (b := ⟨w.heap.size + 1, 0, none⟩) Yba.underlying23 hi34 (by rw [hz34]; decide) (fun h => by injection h with h; omega) a2 t3
      have qm := fun w' => run_eql_map_nil (P := Yba.prog) w' 32 9 27 (some N) Yba.underlying32
      have mN : w3.ownsMap Yba.prog 9 ptrElem N 0 (.map []) := ⟨#[], 0, a1, ⟨by simp, MapKept.stamped_empty 0, by simp⟩, Nat.le_refl _, rfl⟩
      have hlN := fun ty => mN.len (t := 32) (e := 27) Yba.underlying32 ty
      have b0 : w3.cell? ⟨N + 1, 0, none⟩ = some (.int .i64 line) := cell_at a2 0 rfl
      have b1 : w3.cell? ⟨N + 1, 1, none⟩ = some (.slice none 0 0) := cell_at a2 1 rfl
      have b2 : w3.cell? ⟨N + 1, 2, none⟩ = some (.map (some N)) := cell_at a2 2 rfl
      have b3 : w3.cell? ⟨N + 1, 3, none⟩ = some (.int .i64 (kd % 4)) := cell_at a2 3 rfl
      simp only [Maps.size, List.length_nil, Option.isNone_some] at hlN qm
      go_wp2_with fail
      refine (inline_any (N + 1) line (kd % 4) _ _ w3 a2).mono ?_
      rintro _ w3' ⟨rfl, e3⟩
      rw [e3]
      clear e3 w3' q23 qm hlN b0 b1 b2 b3
      have c0 : w3.cell? ⟨w.heap.size + 1, 0, none⟩ = some (.int .i64 tline) := cell_at t3 0 rfl
      have c1 : w3.cell? ⟨w.heap.size + 1, 1, none⟩ = some v3 := cell_at t3 1 rfl
      have c2 : w3.cell? ⟨w.heap.size + 1, 2, none⟩ = some (.map (some w.heap.size)) := cell_at t3 2 rfl
      have c3 : w3.cell? ⟨w.heap.size + 1, 3, none⟩ = some (.int .i64 1) := cell_at t3 3 rfl
      obtain ⟨gk, ck, rfl, _, _⟩ := r3.form (by omega)
      have hkeys := r3.cells (g := gk) rfl
      have hin : (!(decide (kd % 4 = 3) == (kd % 4 == 3))) = false := by by_cases h : kd % 4 = 3 <;> simp [h]
      go_wp2_with fail
      clear c0 c3 hin
      go_loopw [18] (fun i wr => ∃ j : Nat, i = .int .i64 j ∧ j ≤ Z.length ∧ Kept [] w3 wr) (fun i _ => Z.length - (intOf i).toNat)
      case atStart => exact ⟨0, rfl, Nat.zero_le _, Kept.refl _ _⟩
      case round =>
        obtain ⟨j, rfl, hj, hK⟩ := hrel
        have d1 := hK.cell c1 (by simp)
        by_cases hlt : j < Z.length
        · obtain ⟨b, o, rfl, hcell⟩ := hp j hlt
          have e0 : wr.cell? ⟨b, o + j, none⟩ = some (.string (Z.getD j .empty)) := hK.cell ((bel3.cell (p := ⟨b, o + j, none⟩) (World.block_lt_of_cell? w _ hcell)).trans hcell) (by simp)
          have e1 : wr.cell? ⟨gk, 0 + j, none⟩ = some (.string (Z.getD j .empty)) := by
            refine hK.cell ?_ (by simp)
            have := hkeys j (.string (Z.getD j .empty)) (by
              rw [List.getElem?_append_left (by simpa using hlt)]
              simp [List.getD_eq_getElem?_getD, List.getElem?_eq_getElem hlt])
            rw [Addr.add_lit] at this; exact this
          rw [Nat.zero_add] at e1
          generalize Z.getD j .empty = pj at e0 e1
          go_wp2_with fail
          go_region
          have hK' : Kept [] w3 wr.drew := hK.trans (Kept.drew _ _)
          generalize wr.drew = W1 at *
          clear e0 e1 d1
          go_wp2_with fail
          go_roundw
          case rel => exact ⟨j + 1, by go_num, by omega, hK'⟩
          case measure => simp [intOf] <;> omega
        · obtain rfl : j = Z.length := by omega
          have e1 : wr.cell? ⟨gk, Z.length, none⟩ = some (.string key) := by
            refine hK.cell ?_ (by simp)
            have := hkeys Z.length (.string key) (by
              rw [List.getElem?_append_right (by simp)]
              simp)
            rw [Addr.add_lit, Nat.zero_add] at this; exact this
          have d2 := hK.cell c2 (by simp)
          have mw : wr.ownsMap Yba.prog 9 ptrElem w.heap.size (Z.length + 1) ((Dn (fun i => Z.getD i .empty) en Z.length).put (ky key) (.held (N + 2))) := by
            obtain ⟨es, clock, hb, r⟩ := m3
            exact ⟨es, clock, hK.at hb (by simp), r⟩
          obtain ⟨ve, pe, hlook, hve⟩ := mw.look_ok (t := 32) (e := 27) keyed9 Yba.underlying32 (Yba.zeroValue27 wr) (zd := .nil) (zp := []) rfl (key := .string key) (kl := ky key) (WideMaps.keyOf_string_mk Yba.underlying9 hk)
          rw [at_key] at hve
          obtain rfl := ptrElem_inv hve
          rw [has_key] at hlook
          clear hve
          have a3w := hK.at a3 (by simp)
          have g0 : wr.cell? ⟨N + 2, 0, none⟩ = some (.int .i64 line) := cell_at a3w 0 rfl
          have g1 : wr.cell? ⟨N + 2, 1, none⟩ = some (.iface 23 (.pointer (some ⟨N + 1, 0, none⟩))) := cell_at a3w 1 rfl
          have g2 : wr.cell? ⟨N + 2, 2, none⟩ = some (.bool false) := cell_at a3w 2 rfl
          have qn := run_neq_ptr_same wr (tp := 23) (te := 34) ⟨N + 1, 0, none⟩ Yba.underlying23 hi34
          have hta : ∀ w', (Instr.typeAssert (.iface 23 (.pointer (some ⟨N + 1, 0, none⟩))) 20 23 true).run Yba.prog w' = .ok (.tuple #[.pointer (some ⟨N + 1, 0, none⟩), .bool true]) w' := fun _ => by kernel_rfl
          go_wp2_with fail
          clear hta qn g0 g1 g2 hlook e1 d1
          have roww := hK.at row3 (by simp)
          go_loop [23] (fun i => ∃ j : Nat, i = .int .i64 j ∧ j ≤ Z.length) (fun i => Z.length - (intOf i).toNat)
          case atStart => exact ⟨0, rfl, Nat.zero_le _⟩
          case round =>
            obtain ⟨j, rfl, hj⟩ := hrel
            by_cases hlt : j < Z.length
            · obtain ⟨ce, te, hce⟩ := hsep j hlt
              have e0 : wr.cell? ⟨w.heap.size + 2, j, none⟩ = some (.pointer (some ⟨en j, 0, none⟩)) := cell_at roww j (hents j hlt)
              have q27 := run_eql_ptr_other wr (tp := 27) (te := 29) (a := ⟨N + 2, 0, none⟩) (b := ⟨en j, 0, none⟩) Yba.underlying27 hi29 (by rw [hz29]; decide) (fun h => by injection h with h; have := hold j hlt; omega) a3w (hK.at hce (by simp))
              go_wp2_with fail
              go_round
              case rel => exact ⟨j + 1, by go_num, by omega⟩
              case measure => simp [intOf] <;> omega
            · obtain rfl : j = Z.length := by omega
              go_wp2_with fail
              clear roww d2 mw a3w
              obtain ⟨P, hP⟩ : ∃ P : Nat → ByteArray, P = fun i => Z.getD i .empty := ⟨_, rfl⟩
              rw [← hP] at m3
              have hpc : ∀ i, i < Z.length → ∀ b o, pa = some ⟨b, o, none⟩ → w3.cell? ⟨b, o + i, none⟩ = some (.string (P i)) := fun i hi b o hb => by
                rw [hP]
                obtain ⟨b', o', e, hc⟩ := hp i hi
                rw [hb] at e
                simp only [Option.some.injEq, Addr.mk.injEq, and_true] at e
                obtain ⟨rfl, rfl⟩ := e
                exact (bel3.cell (p := ⟨b, o + i, none⟩) (World.block_lt_of_cell? w _ hc)).trans hc
              have hZs : ∀ i, i < Z.length → (P i).size ≤ maxLen := fun i hi => by
                rw [hP]
                exact hZ _ (by show Z.getD i .empty ∈ Z; rw [List.getD_eq_getElem?_getD, List.getElem?_eq_getElem hi]; simp)
              clear hP
              go_loopw [24, 25] (fun d i wq => ∃ k : Nat, i = .int .i64 k ∧ k ≤ Z.length ∧ d = .int .i64 ((cntK P key k : Int) + 1) ∧ Kept [] w3 wq) (fun _ i _ => Z.length - (intOf i).toNat)
              case atStart => exact ⟨0, rfl, Nat.zero_le _, rfl, hK⟩
              case round =>
                obtain ⟨k, rfl, hk', rfl, hKq⟩ := hrel
                have hcb : cntK P key k ≤ k := cntK_le _ _ k
                by_cases hlt : k < Z.length
                · obtain ⟨b, o, rfl, _⟩ := hp k hlt
                  replace hpc := fun i hi => hpc i hi b o rfl
                  have e0 : wr.cell? ⟨b, o + k, none⟩ = some (.string (P k)) := hKq.cell (hpc k hlt) (by simp)
                  have hstep : cntK P key (k + 1) = cntK P key k + (if P k = key then 0 else if was P k (P k) then 0 else 1) := rfl
                  by_cases hke : P k = key
                  · rw [hke] at e0
                    rw [if_pos hke] at hstep
                    clear hke
                    go_wp2_with fail
                    go_roundw
                    case rel => exact ⟨k + 1, by go_num, by omega, by rw [hstep, Nat.add_zero], hKq⟩
                    case measure => simp [intOf] <;> omega
                  · rw [if_neg hke] at hstep
                    have hkey : Hid (P k ≠ key) := hke
                    have hbe : ((P k).toList == key.toList) = false := bytes_ne hke
                    by_cases hw0 : was P k (P k) = true
                    · have hw : Hid (was P k (P k) = true) := hw0
                      rw [if_pos hw0] at hstep
                      have hcnt0 : Value.int .i64 ((cntK P key k : Int) + 1) = .int .i64 ((cntK P key (k + 1) : Int) + 1) := by rw [hstep, Nat.add_zero]
                      clear hw0 hstep
                      go_wp2_with fail
                      go_loopw [26, 27] (fun f j wz => ∃ m : Nat, f = .bool true ∧ j = .int .i64 m ∧ m ≤ k ∧ (∀ i', i' < m → P i' ≠ P k) ∧ Kept [] w3 wz) (fun _ j _ => k - (intOf j).toNat)
                      case atStart => exact ⟨0, rfl, rfl, Nat.zero_le _, fun i' h => by omega, hKq⟩
                      case round =>
                        obtain ⟨m, rfl, rfl, hmk, hno, hKz⟩ := hrel
                        replace hno : Hid _ := hno
                        by_cases hmlt : m < k
                        · have e2 : wr.cell? ⟨b, o + m, none⟩ = some (.string (P m)) := hKz.cell ((hpc m (by omega))) (by simp)
                          have e3 : wr.cell? ⟨b, o + k, none⟩ = some (.string (P k)) := hKz.cell ((hpc k hlt)) (by simp)
                          by_cases hEq : P m = P k
                          · rw [hEq] at e2
                            clear hEq
                            go_wp2_with fail
                            go_region
                            have hKd : Kept [] w3 wr.drew := hKz.trans (Kept.drew _ _)
                            generalize wr.drew = W1 at *
                            clear e2 e3 hno hKz
                            go_wp2_with fail
                            go_loopw [28, 29] (fun l j wz => ∃ L m : Nat, l = .int .i64 L ∧ j = .int .i64 m ∧ k < m ∧ m ≤ Z.length ∧ k ≤ L ∧ L < m ∧ P L = P k ∧ (∀ i', L < i' → i' < m → P i' ≠ P k) ∧ Kept [] w3 wz) (fun _ j _ => Z.length - (intOf j).toNat)
                            case atStart => exact ⟨k, k + 1, rfl, by go_num, by omega, by omega, by omega, by omega, rfl, fun i' h1 h2 => by omega, by assumption⟩
                            case round =>
                              obtain ⟨L, m, rfl, rfl, hkm, hmn, hkL, hLm, hPL, hno, hKz⟩ := hrel
                              replace hno : Hid _ := hno
                              replace hPL : Hid _ := hPL
                              have hn2 := hn
                              by_cases hmlt : m < Z.length
                              · have e2 : wr.cell? ⟨b, o + m, none⟩ = some (.string (P m)) := hKz.cell ((hpc m hmlt)) (by simp)
                                have e3 : wr.cell? ⟨b, o + k, none⟩ = some (.string (P k)) := hKz.cell ((hpc k hlt)) (by simp)
                                by_cases hEq : P m = P k
                                · have hEq' : Hid (P m = P k) := hEq
                                  rw [hEq] at e2
                                  clear hEq
                                  go_wp2_with fail
                                  go_region
                                  have hKd : Kept [] w3 wr.drew := hKz.trans (Kept.drew _ _)
                                  generalize wr.drew = W1 at *
                                  clear e2 e3
                                  go_wp2_with fail
                                  go_roundw
                                  case rel => exact ⟨m, m + 1, rfl, by go_num, by omega, by omega, by omega, by omega, hEq'.out, fun i' h1 h2 => by omega, hKd⟩
                                  case measure => simp [intOf] <;> omega
                                · have hEq' : Hid (P m ≠ P k) := hEq
                                  have hbe2 : ((P m).toList == (P k).toList) = false := bytes_ne hEq
                                  go_wp2_with fail
                                  go_region
                                  have hKd : Kept [] w3 wr.drew := hKz.trans (Kept.drew _ _)
                                  generalize wr.drew = W1 at *
                                  clear e2 e3
                                  go_wp2_with fail
                                  go_roundw
                                  case rel => exact ⟨L, m + 1, rfl, by go_num, by omega, by omega, by omega, by omega, hPL.out, fun i' h1 h2 => if e : i' = m then e ▸ hEq'.out else hno.out i' h1 (by omega), hKd⟩
                                  case measure => simp [intOf] <;> omega
                              · obtain rfl : m = Z.length := by omega
                                have e3 : wr.cell? ⟨b, o + k, none⟩ = some (.string (P k)) := hKz.cell ((hpc k hlt)) (by simp)
                                have e4 : wr.cell? ⟨w.heap.size + 2, L, none⟩ = some (.pointer (some ⟨en L, 0, none⟩)) := cell_at (hKz.at row3 (by simp)) L (hents L hLm)
                                have d2z := hKz.cell c2 (by simp)
                                have mz : wr.drew.ownsMap Yba.prog 9 ptrElem w.heap.size (Z.length + 1) ((Dn P en Z.length).put (ky key) (.held (N + 2))) := by
                                  obtain ⟨es, clock, hb, r⟩ := m3
                                  exact ⟨es, clock, hKz.at hb (by simp), r⟩
                                obtain ⟨ve, pe, hlook, hve⟩ := mz.lookup (t := 32) (e := 27) keyed9 Yba.underlying32 (Yba.zeroValue27 _) (zd := .nil) (zp := []) rfl (key := .string (P k)) (kl := ky (P k)) (WideMaps.keyOf_string_mk Yba.underlying9 (hZs k hlt))
                                have hat := at_last P en key (N + 2) Z.length L hLm (fun i' h1 h2 => by rw [hPL.out]; exact hno.out i' h1 h2) (by rw [hPL.out]; exact hkey.out)
                                rw [hPL.out] at hat
                                rw [hat] at hve
                                obtain rfl := ptrElem_inv hve
                                clear hve hat mz
                                have qn := run_neq_ptr_same wr.drew (tp := 27) (te := 29) ⟨en L, 0, none⟩ Yba.underlying27 hi29
                                go_wp2_with fail
                                go_region
                                have hKd : Kept [] w3 wr.drew := hKz.trans (Kept.drew _ _)
                                generalize wr.drew = W1 at *
                                clear e3 e4 d2z hlook qn
                                go_wp2_with fail
                                go_roundw
                                case rel => exact ⟨k + 1, by go_num, by omega, hcnt0, hKd⟩
                                case measure => simp [intOf] <;> omega
                          · have hEq' : Hid (P m ≠ P k) := hEq
                            have hbe2 : ((P m).toList == (P k).toList) = false := bytes_ne hEq
                            go_wp2_with fail
                            go_region
                            have hKd : Kept [] w3 wr.drew := hKz.trans (Kept.drew _ _)
                            generalize wr.drew = W1 at *
                            clear e2 e3
                            go_wp2_with fail
                            go_roundw
                            case rel => exact ⟨m + 1, rfl, by go_num, by omega, fun i' h => if e : i' = m then e ▸ hEq'.out else hno.out i' (by omega), hKd⟩
                            case measure => simp [intOf] <;> omega
                        · obtain rfl : m = k := by omega
                          obtain ⟨i', h1, h2⟩ := (was_iff P _ m).1 hw.out
                          exact absurd h2 (hno.out i' h1)
                    · have hw : Hid (¬ was P k (P k) = true) := hw0
                      rw [if_neg hw0] at hstep
                      have hcnt1 : Value.int .i64 ((cntK P key k : Int) + 1 + 1) = .int .i64 ((cntK P key (k + 1) : Int) + 1) := by rw [hstep]; rfl
                      clear hw0 hstep
                      go_wp2_with fail
                      go_loopw [26, 27] (fun f j wz => ∃ m : Nat, f = .bool true ∧ j = .int .i64 m ∧ m ≤ k ∧ (∀ i', i' < m → P i' ≠ P k) ∧ Kept [] w3 wz) (fun _ j _ => k - (intOf j).toNat)
                      case atStart => exact ⟨0, rfl, rfl, Nat.zero_le _, fun i' h => by omega, hKq⟩
                      case round =>
                        obtain ⟨m, rfl, rfl, hmk, hno, hKz⟩ := hrel
                        replace hno : Hid _ := hno
                        by_cases hmlt : m < k
                        · have e2 : wr.cell? ⟨b, o + m, none⟩ = some (.string (P m)) := hKz.cell ((hpc m (by omega))) (by simp)
                          have e3 : wr.cell? ⟨b, o + k, none⟩ = some (.string (P k)) := hKz.cell ((hpc k hlt)) (by simp)
                          by_cases hEq : P m = P k
                          · exact absurd ((was_iff P _ k).2 ⟨m, hmlt, hEq⟩) hw.out
                          · have hEq' : Hid (P m ≠ P k) := hEq
                            have hbe2 : ((P m).toList == (P k).toList) = false := bytes_ne hEq
                            go_wp2_with fail
                            go_region
                            have hKd : Kept [] w3 wr.drew := hKz.trans (Kept.drew _ _)
                            generalize wr.drew = W1 at *
                            clear e2 e3
                            go_wp2_with fail
                            go_roundw
                            case rel => exact ⟨m + 1, rfl, by go_num, by omega, fun i' h => if e : i' = m then e ▸ hEq'.out else hno.out i' (by omega), hKd⟩
                            case measure => simp [intOf] <;> omega
                        · obtain rfl : k = m := by omega
                          clear hno hmlt
                          go_wp2_with fail
                          go_loopw [28, 29] (fun l j wz => ∃ L m : Nat, l = .int .i64 L ∧ j = .int .i64 m ∧ k < m ∧ m ≤ Z.length ∧ k ≤ L ∧ L < m ∧ P L = P k ∧ (∀ i', L < i' → i' < m → P i' ≠ P k) ∧ Kept [] w3 wz) (fun _ j _ => Z.length - (intOf j).toNat)
                          case atStart => exact ⟨k, k + 1, rfl, by go_num, by omega, by omega, by omega, by omega, rfl, fun i' h1 h2 => by omega, by assumption⟩
                          case round =>
                            obtain ⟨L, m, rfl, rfl, hkm, hmn, hkL, hLm, hPL, hno, hKz⟩ := hrel
                            replace hno : Hid _ := hno
                            replace hPL : Hid _ := hPL
                            have hn2 := hn
                            by_cases hmlt : m < Z.length
                            · have e2 : wr.cell? ⟨b, o + m, none⟩ = some (.string (P m)) := hKz.cell ((hpc m hmlt)) (by simp)
                              have e3 : wr.cell? ⟨b, o + k, none⟩ = some (.string (P k)) := hKz.cell ((hpc k hlt)) (by simp)
                              by_cases hEq : P m = P k
                              · have hEq' : Hid (P m = P k) := hEq
                                rw [hEq] at e2
                                clear hEq
                                go_wp2_with fail
                                go_region
                                have hKd : Kept [] w3 wr.drew := hKz.trans (Kept.drew _ _)
                                generalize wr.drew = W1 at *
                                clear e2 e3
                                go_wp2_with fail
                                go_roundw
                                case rel => exact ⟨m, m + 1, rfl, by go_num, by omega, by omega, by omega, by omega, hEq'.out, fun i' h1 h2 => by omega, hKd⟩
                                case measure => simp [intOf] <;> omega
                              · have hEq' : Hid (P m ≠ P k) := hEq
                                have hbe2 : ((P m).toList == (P k).toList) = false := bytes_ne hEq
                                go_wp2_with fail
                                go_region
                                have hKd : Kept [] w3 wr.drew := hKz.trans (Kept.drew _ _)
                                generalize wr.drew = W1 at *
                                clear e2 e3
                                go_wp2_with fail
                                go_roundw
                                case rel => exact ⟨L, m + 1, rfl, by go_num, by omega, by omega, by omega, by omega, hPL.out, fun i' h1 h2 => if e : i' = m then e ▸ hEq'.out else hno.out i' h1 (by omega), hKd⟩
                                case measure => simp [intOf] <;> omega
                            · obtain rfl : m = Z.length := by omega
                              have e3 : wr.cell? ⟨b, o + k, none⟩ = some (.string (P k)) := hKz.cell ((hpc k hlt)) (by simp)
                              have e4 : wr.cell? ⟨w.heap.size + 2, L, none⟩ = some (.pointer (some ⟨en L, 0, none⟩)) := cell_at (hKz.at row3 (by simp)) L (hents L hLm)
                              have d2z := hKz.cell c2 (by simp)
                              have mz : wr.drew.ownsMap Yba.prog 9 ptrElem w.heap.size (Z.length + 1) ((Dn P en Z.length).put (ky key) (.held (N + 2))) := by
                                obtain ⟨es, clock, hb, r⟩ := m3
                                exact ⟨es, clock, hKz.at hb (by simp), r⟩
                              obtain ⟨ve, pe, hlook, hve⟩ := mz.lookup (t := 32) (e := 27) keyed9 Yba.underlying32 (Yba.zeroValue27 _) (zd := .nil) (zp := []) rfl (key := .string (P k)) (kl := ky (P k)) (WideMaps.keyOf_string_mk Yba.underlying9 (hZs k hlt))
                              have hat := at_last P en key (N + 2) Z.length L hLm (fun i' h1 h2 => by rw [hPL.out]; exact hno.out i' h1 h2) (by rw [hPL.out]; exact hkey.out)
                              rw [hPL.out] at hat
                              rw [hat] at hve
                              obtain rfl := ptrElem_inv hve
                              clear hve hat mz
                              have qn := run_neq_ptr_same wr.drew (tp := 27) (te := 29) ⟨en L, 0, none⟩ Yba.underlying27 hi29
                              go_wp2_with fail
                              go_region
                              have hKd : Kept [] w3 wr.drew := hKz.trans (Kept.drew _ _)
                              generalize wr.drew = W1 at *
                              clear e3 e4 d2z hlook qn
                              go_wp2_with fail
                              go_roundw
                              case rel => exact ⟨k + 1, by go_num, by omega, hcnt1, hKd⟩
                              case measure => simp [intOf] <;> omega
                · obtain rfl : k = Z.length := by omega
                  have d2z := hKq.cell c2 (by simp)
                  have mz : wr.ownsMap Yba.prog 9 ptrElem w.heap.size (Z.length + 1) ((Dn P en Z.length).put (ky key) (.held (N + 2))) := by
                    obtain ⟨es, clock, hb, r⟩ := m3
                    exact ⟨es, clock, hKq.at hb (by simp), r⟩
                  have hl := fun ty => mz.len (t := 32) (e := 27) Yba.underlying32 ty
                  rw [size_last] at hl
                  go_wp2_with fail
                  go_ret
                  exact ⟨by simp, bel3.trans (hKq.below (by have := bel3.size; omega) (by simp))⟩
end Go.Proofs.Ybulkcqoa
