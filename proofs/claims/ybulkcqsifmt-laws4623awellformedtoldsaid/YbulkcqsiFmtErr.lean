import Derived.Test.YbulkcqsiFmtHex
import Derived.Stop.CallBack
import Derived.Stop.IfaceNil
import Derived.Stop.FmtTextSlices
import GoSem.ClaimData
namespace Go.Proofs.YbulkcqsiFmt
set_option linter.unusedVariables false
set_option linter.unusedSimpArgs false
open Go.RowKit Go.Extern.Stop Go.Stop Go.Extern

theorem Ybaf.call16 (args : Array Value) (w : World) : (callFunc 16 args).run Ybaf.prog w = ((FmtStop.errorf #[9, 46] #[29] args).run Ybaf.prog w).andThen fun v w' => .ok (.value v) w' :=
  run_callFunc_extern Ybaf.func16 (by kernel_rfl) (by kernel_rfl) (by kernel_rfl) (by kernel_rfl) args w
theorem Ybaf.guard (name : String) (w : World) : (FmtStop.guard name).run Ybaf.prog w = .ok () w := by kernel_rfl
theorem Ybaf.fmt0r (w : World) : (FmtDoors.printed ⟨#[117, 110, 112, 97, 105, 114, 101, 100, 32, 115, 117, 114, 114, 111, 103, 97, 116, 101, 32, 37, 115]⟩ 1).run Ybaf.prog w = .ok [(0, 115, false)] w := by kernel_rfl
theorem Ybaf.hasWrite : Ybaf.prog.funcs.any (·.name == FmtStop.writeWord) = true := by kernel_rfl

/-- The text that a run answers. -/
def textIn : Result String → String
  | .ok s _ => s
  | _ => ""
theorem Ybaf.typeStr22 (w : World) : (typeStr 22).run Ybaf.prog w = .ok (textIn ((typeStr 22).run Ybaf.prog w)) w := by kernel_rfl

theorem Ybaf.value5 (name : String) (x : Int) (w : World) : (FmtStop.value name FmtStop.depth 5 [.int .u8 x]).run Ybaf.prog w = .ok (digits 8 (x % 2 ^ 64).toNat) w := by kernel_rfl
theorem Ybaf.values5 (name : String) (w : World) : ∀ xs : List Int, (List.mapM ((fun c => FmtStop.value name FmtStop.depth 5 [c]) ∘ Value.int IntKind.u8) xs).run Ybaf.prog w = .ok (xs.map fun x => digits 8 (x % 18446744073709551616).toNat) w
  | [] => by simp [List.mapM_nil]
  | x :: xs => by
    have ih := Ybaf.values5 name w xs
    have h := Ybaf.value5 name x w
    simp [List.mapM_cons, h, ih, Result.andThen]

theorem Ybaf.opBytes (name : String) (a : Addr) (cap : Nat) (xs : List Int) (w : World) (hc : ∀ j v, (xs.map (Value.int .u8))[j]? = some v → w.cell? (a.add j) = some v) :
    ∃ S L, (FmtStop.operand name true 115 false (.iface 22 (.slice (some a) xs.length cap))).run Ybaf.prog w = .ok (S, L) w := by
  have h1 := Ybaf.typeStr22 w
  generalize textIn ((typeStr 22).run Ybaf.prog w) = nm at h1
  have d2 : Ybaf.t22.desc = .slice 5 := rfl
  have hb : (FmtStop.bare (FmtStop.asked true 115 false) 22).run Ybaf.prog w = .ok true w := by kernel_rfl
  have hs : (FmtStop.scalar 5).run Ybaf.prog w = .ok true w := by kernel_rfl
  have hy : (Extern.Stop.isByte 5).run Ybaf.prog w = .ok true w := by kernel_rfl
  have hw := Ybaf.hasWrite
  have hsh : (FmtStop.shape name (FmtStop.asked true 115 false) FmtStop.depth 5).run Ybaf.prog w = .ok (6 :: FmtStop.pack "uint8".toUTF8.data.toList) w := by kernel_rfl
  have hl := run_loadCells_list (P := Ybaf.prog) w a (xs.map (Value.int .u8)) hc
  rw [List.length_map] at hl
  refine ⟨13 :: (FmtStop.pack nm.toUTF8.data.toList ++ 6 :: FmtStop.pack "uint8".toUTF8.data.toList), 1 :: (digits 8 xs.length ++ FmtText.intValues xs), ?_⟩
  simp [FmtStop.operand, h1, hb, hs, hy, hsh, hl, Ybaf.values5, FmtText.intValues]
  intro hno
  obtain ⟨i, hi, _, _, he⟩ := Array.any_iff_exists.1 hw
  exact absurd (by simpa using he) (hno i hi)

theorem Ybaf.ptr50 (w : World) : (FmtStop.ptrTo "errors.errorString").run Ybaf.prog w = .ok 50 w := by kernel_rfl
theorem Ybaf.elem50 (w : World) : (elemOf 50).run Ybaf.prog w = .ok 52 w := by kernel_rfl

set_option maxHeartbeats 800000 in
set_option maxRecDepth 20000 in
theorem errorf_any (F : Interp) (g o cap B : Nat) (x0 x1 x2 x3 x4 x5 : Int) (w : World) (hF : F.answers w.tape)
    (hB : w.cell? ⟨B, 0, none⟩ = some (.iface 22 (.slice (some ⟨g, o, none⟩) 6 cap)))
    (hc : ∀ i, i < 6 → w.cell? ⟨g, o + i, none⟩ = some (.int .u8 ([x0, x1, x2, x3, x4, x5].getD i 0))) :
    Calls Ybaf.prog 14 #[.string ⟨#[117, 110, 112, 97, 105, 114, 101, 100, 32, 115, 117, 114, 114, 111, 103, 97, 116, 101, 32, 37, 115]⟩, .slice (some ⟨B, 0, none⟩) 1 1] w fun r w' => (∃ p, r = .returned (.iface 50 (.pointer (some p)))) ∧ Kept [] w w' := by
  have hF' := answers_open hF
  have h16 := Ybaf.call16
  have hg := Ybaf.guard
  have hf := Ybaf.fmt0r
  have hp := Ybaf.ptr50
  have he := Ybaf.elem50
  obtain ⟨S, L, hop⟩ : ∃ S L, (FmtStop.operand "fmt.errorf" true 115 false (.iface 22 (.slice (some ⟨g, o, none⟩) 6 cap))).run Ybaf.prog w = .ok (S, L) w :=
    Ybaf.opBytes "fmt.errorf" ⟨g, o, none⟩ cap [x0, x1, x2, x3, x4, x5] w (fun j v hj => by
      have hjl : j < [x0, x1, x2, x3, x4, x5].length := by
        have := (List.getElem?_eq_some_iff.1 hj).1
        simpa using this
      rw [List.getElem?_map, List.getElem?_eq_getElem hjl] at hj
      simp only [Option.map_some, Option.some.injEq] at hj
      rw [Addr.add_lit, hc j hjl, ← hj, List.getD_eq_getElem?_getD, List.getElem?_eq_getElem hjl]
      rfl)
  clear hc
  go_enter Ybaf.func14, Ybaf.ntmps14
  go_wp2
  go_ret
  exact ⟨⟨_, rfl⟩, (Kept.alloc _ _ _).trans (Kept.drew _ _)⟩
end Go.Proofs.YbulkcqsiFmt
