import Derived.Test.YbulkcqsiFmtScal
import Derived.Lib.ConvBytes
import Derived.Laws.BytesArg
import Derived.WalkSpells
namespace Go.Proofs.YbulkcqsiFmt
set_option linter.unusedVariables false
set_option linter.unusedSimpArgs false
open Go.RowKit

theorem lower_any (c : Int) (h0 : 97 ≤ c) (h1 : c ≤ 102) (w : World) : Calls Ybaf.prog 20 #[.int .u8 c] w fun r w' => r = .returned (.int .u8 c) ∧ w' = w := by
  rcases (show c = 97 ∨ c = 98 ∨ c = 99 ∨ c = 100 ∨ c = 101 ∨ c = 102 by omega) with rfl | rfl | rfl | rfl | rfl | rfl
  all_goals
    go_enter Ybaf.func20, Ybaf.ntmps20
    go_wp2
    go_ret
    exact ⟨rfl, rfl⟩

theorem Kept.bytesWorld (w : World) (e : TypeId) (s : ByteArray) : Kept [] w (Lib.bytesWorld w e s) :=
  ⟨rfl, rfl, rfl, by rw [Lib.bytesWorld_size]; omega, fun k hk _ => Lib.bytesWorld_at_old w e s k hk⟩

set_option maxRecDepth 20000 in
set_option maxHeartbeats 1000000 in
theorem parse18 (s : ByteArray) (C V : Nat → Int) (w : World) (hs : s.size = 4) (hne : s.toList.isEmpty = false) (hC : ∀ k, k < 4 → ((s.data.toList.getD k 0).toNat : Int) = C k) (hV0 : V 0 = 0)
    (hV : ∀ k, k < 4 → (48 ≤ C k ∧ C k ≤ 57 ∧ V (k + 1) = V k * 16 + (C k - 48)) ∨ (97 ≤ C k ∧ C k ≤ 102 ∧ V (k + 1) = V k * 16 + (C k - 87)))
    (hb : ∀ k, k ≤ 4 → 0 ≤ V k ∧ V k ≤ 65535) :
    Calls Ybaf.prog 18 #[.string s, .int .i64 16, .int .i64 16] w fun r w' => r = .returned (.tuple #[.int .u64 (V 4), .nilIface]) ∧ Kept [] w w' := by
  have hcv := fun w => Lib.run_convert_string_bytes (P := Ybaf.prog) w 9 22 5 s Ybaf.underlying9 Ybaf.underlying22 Ybaf.underlying5
  rw [hs] at hcv
  go_enter Ybaf.func18, Ybaf.ntmps18
  go_wp2_with fail
  clear hcv
  have k1 := Kept.bytesWorld w 5 s
  have c1 := fun k hk => Lib.bytesWorld_cell w 5 s k hk
  generalize Lib.bytesWorld w 5 s = w1 at *
  generalize w.heap.size = B at c1
  rw [hs] at c1
  replace c1 : ∀ k, k < 4 → w1.cell? ⟨B, k, none⟩ = some (.int .u8 (C k)) := fun k hk => by rw [c1 k hk, hC k hk]
  clear hC
  go_loopw [12, 13, 101] (fun u n i wr => u = .bool false ∧ ∃ k : Nat, n = .int .u64 (V k) ∧ i = .int .i64 k ∧ k ≤ 4 ∧ Kept [] w1 wr) (fun _ _ i _ => 4 - (intOf i).toNat)
  case atStart => exact ⟨rfl, 0, by rw [hV0], rfl, by omega, Kept.refl _ _⟩
  case round =>
    obtain ⟨rfl, k, rfl, rfl, hk, hK⟩ := hrel
    by_cases hlt : k < 4
    · have c0 := hK.cell (c1 k hlt) (by simp)
      have b0 := hb k (by omega)
      have b1 := hb (k + 1) (by omega)
      rcases hV k hlt with ⟨e1, e2, e3⟩ | ⟨e1, e2, e3⟩
      · have hv : Hid (V (k + 1) = V k * 16 + (C k - 48)) := e3
        rw [e3] at b1
        clear e3
        generalize C k = c at *
        generalize V k = v at *
        have q0 : (c == 95) = false := by simp; omega
        have q1 : decide (48 ≤ c) = true := by simp; omega
        have q2 : decide (c ≤ 57) = true := by simp; omega
        go_wp2_with fail
        exact ⟨⟨rfl, k + 1, by rw [hv.out], by go_num, by omega, hK⟩, by simp [intOf]; omega⟩
      · have hv : Hid (V (k + 1) = V k * 16 + (C k - 87)) := e3
        rw [e3] at b1
        clear e3
        generalize C k = c at *
        generalize V k = v at *
        have q0 : (c == 95) = false := by simp; omega
        have q1 : decide (48 ≤ c) = true := by simp; omega
        have q2 : decide (c ≤ 57) = false := by simp; omega
        have q3 : decide (97 ≤ c) = true := by simp; omega
        have q4 : decide (c ≤ 122) = true := by simp; omega
        go_wp2_with fail
        refine (lower_any c e1 e2 wr).mono ?_
        rintro _ w' ⟨rfl, e⟩
        rw [e]
        clear e w'
        go_wp2_with fail
        refine (lower_any c e1 e2 wr).mono ?_
        rintro _ w' ⟨rfl, e⟩
        rw [e]
        clear e w'
        go_wp2_with fail
        refine (lower_any c e1 e2 wr).mono ?_
        rintro _ w' ⟨rfl, e⟩
        rw [e]
        clear e w'
        go_wp2_with fail
        exact ⟨⟨rfl, k + 1, by rw [hv.out]; congr 1; omega, by go_num, by omega, hK⟩, by simp [intOf]; omega⟩
    · obtain rfl : k = 4 := by omega
      go_wp2_with fail
      go_ret2
      exact ⟨rfl, k1.trans hK⟩

set_option maxRecDepth 20000 in
theorem parse15 (s : ByteArray) (C V : Nat → Int) (w : World) (hs : s.size = 4) (hne : s.toList.isEmpty = false) (hC : ∀ k, k < 4 → ((s.data.toList.getD k 0).toNat : Int) = C k) (hV0 : V 0 = 0)
    (hV : ∀ k, k < 4 → (48 ≤ C k ∧ C k ≤ 57 ∧ V (k + 1) = V k * 16 + (C k - 48)) ∨ (97 ≤ C k ∧ C k ≤ 102 ∧ V (k + 1) = V k * 16 + (C k - 87)))
    (hb : ∀ k, k ≤ 4 → 0 ≤ V k ∧ V k ≤ 65535) :
    Calls Ybaf.prog 15 #[.string s, .int .i64 16, .int .i64 16] w fun r w' => r = .returned (.tuple #[.int .u64 (V 4), .nilIface]) ∧ Kept [] w w' := by
  have call : Hid _ := parse18 s C V w hs hne hC hV0 hV hb
  clear hC hV hb hV0
  go_enter Ybaf.func15, Ybaf.ntmps15
  go_wp2_with fail
  refine Calls.mono call.out ?_
  rintro _ w' ⟨rfl, K⟩
  go_wp2_with fail
  go_ret2
  exact ⟨rfl, K⟩

def isHex (c : Int) : Prop := (48 ≤ c ∧ c ≤ 57) ∨ (97 ≤ c ∧ c ≤ 102)
def dig (c : Int) : Int := if c ≤ 57 then c - 48 else c - 87
def val4 (a b c d : Int) : Int := ((dig a * 16 + dig b) * 16 + dig c) * 16 + dig d

theorem dig_lt {c : Int} (h : isHex c) : 0 ≤ dig c ∧ dig c ≤ 15 := by
  unfold dig
  rcases h with h | h
  · rw [if_pos h.2]; omega
  · rw [if_neg (by omega)]; omega

theorem isHex.step {c v : Int} (h : isHex c) : (48 ≤ c ∧ c ≤ 57 ∧ v * 16 + dig c = v * 16 + (c - 48)) ∨ (97 ≤ c ∧ c ≤ 102 ∧ v * 16 + dig c = v * 16 + (c - 87)) := by
  unfold dig
  rcases h with h | h
  · left; rw [if_pos h.2]; exact ⟨h.1, h.2, rfl⟩
  · right; rw [if_neg (by omega)]; exact ⟨h.1, h.2, rfl⟩

theorem hex_byte {c : Int} (h : isHex c) : (((UInt8.ofNat c.toNat).toNat : Nat) : Int) = c := by
  have : c.toNat < 256 := by rcases h with h | h <;> omega
  simp [UInt8.toNat_ofNat']
  rcases h with h | h <;> omega

set_option maxRecDepth 20000 in
theorem codeUnit_any (g o cap : Nat) (a b c d : Int) (ha : isHex a) (hb : isHex b) (hc : isHex c) (hd : isHex d) (w : World)
    (c0 : w.cell? ⟨g, o, none⟩ = some (.int .u8 a)) (c1 : w.cell? ⟨g, o + 1, none⟩ = some (.int .u8 b)) (c2 : w.cell? ⟨g, o + 2, none⟩ = some (.int .u8 c)) (c3 : w.cell? ⟨g, o + 3, none⟩ = some (.int .u8 d)) :
    Calls Ybaf.prog 11 #[.slice (some ⟨g, o, none⟩) 4 cap] w fun r w' => r = .returned (.int .i32 (val4 a b c d)) ∧ Kept [] w w' := by
  have hcv := run_convert_bytes_arg (P := Ybaf.prog) w 22 5 Ybaf.underlying22 Ybaf.underlying5 g o 4 cap [a, b, c, d] rfl (fun i hi => by
    rcases (show i = 0 ∨ i = 1 ∨ i = 2 ∨ i = 3 by omega) with rfl | rfl | rfl | rfl
    · exact c0
    · exact c1
    · exact c2
    · exact c3) 9 Ybaf.underlying9
  have da := dig_lt ha
  have db := dig_lt hb
  have dc := dig_lt hc
  have dd := dig_lt hd
  have call : Hid _ := parse15 (strOfNums [a, b, c, d]) (fun k => [a, b, c, d].getD k 0) (fun k => [0, dig a, dig a * 16 + dig b, (dig a * 16 + dig b) * 16 + dig c, val4 a b c d].getD k 0) w rfl (by rw [ByteArray.toList_eq]; rfl)
    (fun k hk => by
      rcases (show k = 0 ∨ k = 1 ∨ k = 2 ∨ k = 3 by omega) with rfl | rfl | rfl | rfl
      · exact hex_byte ha
      · exact hex_byte hb
      · exact hex_byte hc
      · exact hex_byte hd) rfl
    (fun k hk => by
      rcases (show k = 0 ∨ k = 1 ∨ k = 2 ∨ k = 3 by omega) with rfl | rfl | rfl | rfl
      · have := ha.step (v := 0); simpa using this
      · exact hb.step
      · exact hc.step
      · exact hd.step)
    (fun k hk => by
      rcases (show k = 0 ∨ k = 1 ∨ k = 2 ∨ k = 3 ∨ k = 4 by omega) with rfl | rfl | rfl | rfl | rfl
      · simp
      · simp; omega
      · simp; omega
      · simp; omega
      · simp [val4]; omega)
  have hv : 0 ≤ val4 a b c d ∧ val4 a b c d ≤ 65535 := by unfold val4; omega
  generalize strOfNums [a, b, c, d] = s at *
  have e4 : [0, dig a, dig a * 16 + dig b, (dig a * 16 + dig b) * 16 + dig c, val4 a b c d].getD 4 0 = val4 a b c d := rfl
  rw [e4] at call
  generalize val4 a b c d = v at *
  go_enter Ybaf.func11, Ybaf.ntmps11
  go_wp2_with fail
  refine Calls.mono call.out ?_
  rintro _ w' ⟨rfl, K⟩
  go_wp2_with fail
  go_ret
  exact ⟨rfl, K⟩

theorem surr_any (v : Int) (w : World) : Calls Ybaf.prog 12 #[.int .i32 v] w fun r w' => r = .returned (.bool (decide (55296 ≤ v ∧ v < 57344))) ∧ w' = w := by
  by_cases h1 : 55296 ≤ v
  · by_cases h2 : v < 57344
    · go_enter Ybaf.func12, Ybaf.ntmps12
      go_wp2
      go_ret
      exact ⟨by simp [h1, h2], rfl⟩
    · go_enter Ybaf.func12, Ybaf.ntmps12
      go_wp2
      go_ret
      exact ⟨by simp [h1, h2], rfl⟩
  · go_enter Ybaf.func12, Ybaf.ntmps12
    go_wp2
    go_ret
    exact ⟨by simp; intro h; omega, rfl⟩

theorem decode_pair (w : World) : Calls Ybaf.prog 13 #[.int .i32 55357, .int .i32 56832] w fun r w' => r = .returned (.int .i32 128512) ∧ w' = w := by
  have hb : bits BinOp.or IntKind.i32 62464 512 = 62976 := by kernel_rfl
  go_enter Ybaf.func13, Ybaf.ntmps13
  go_wp2
  go_ret
  exact ⟨rfl, rfl⟩
theorem decode_not (w : World) : Calls Ybaf.prog 13 #[.int .i32 55357, .int .i32 65] w fun r w' => r = .returned (.int .i32 65533) ∧ w' = w := by
  go_enter Ybaf.func13, Ybaf.ntmps13
  go_wp2
  go_ret
  exact ⟨rfl, rfl⟩
end Go.Proofs.YbulkcqsiFmt
