import Derived.Test.YbulkcqsiFmtProg
import Derived.Test.YbulkcqsiFmtBase
import Derived.Test.YbulkcqsiFmtLast
import Derived.Lib.AppendStr
namespace Go.Proofs.YbulkcqsiFmt
set_option linter.unusedVariables false
set_option linter.unusedSimpArgs false
open Go.RowKit

theorem Ybaf.info5 : (Ybaf.prog.info? 5).map (fun i => (i.zero, i.size, i.bytes)) = some (some (.int .u8 0), 1, 1) := by kernel_rfl

/-- The bytes as cells. -/
def bs (l : List Int) : List Value := l.map (.int .u8)

/-- v big-endian, n bytes. -/
def be (v : Int) : Nat → List Int
  | 0 => []
  | n + 1 => (v / 256 ^ n) % 256 :: be v n

theorem be_length (v : Int) : ∀ n, (be v n).length = n
  | 0 => rfl
  | n + 1 => by simp [be, be_length v n]

/-- What an append onto an owned row of bytes leaves. -/
def Appended (base : Nat) (v : Value) (xs news : List Int) (w : World) (v' : Value) (w' : World) : Prop :=
  w'.ownsRow base 5 1 v' (xs.length + news.length) (bs (xs ++ news)) ∧ Kept v.ownBlock.toList w w' ∧ (v'.ownBlock = v.ownBlock ∨ ∀ g, v'.ownBlock = some g → w.heap.size ≤ g) ∧ (v'.ownBlock = none → v.ownBlock = none)

theorem run_append_str_lies {P : Program} (w : World) (base : Nat) (t u ty e : TypeId) (i : TypeInfo) (ht : P.underlying t = some (.slice e)) (hu : P.underlying u = some .string) (hi : P.info? e = some i) (hz : i.zero = some (.int .u8 0))
    (hsize : i.size = 1) (hby : i.bytes = 1) (v : Value) (n : Nat) (xs : List Value) (hown : w.ownsRow base e 1 v n xs) (s : ByteArray)
    (h63 : n + s.size ≤ maxLen) (hbytes : n + s.size ≤ 140737488355328) (hbase : base ≤ w.heap.size) :
    ∃ v' w', (Builtin.append_ #[t, u] ty #[v, .string s]).run P w = .ok v' w' ∧ w'.ownsRow base e 1 v' (n + s.size) (xs ++ Lib.strCells s) ∧ w.grownBy w' v.ownBlock ∧
      (v'.ownBlock = v.ownBlock ∨ v'.ownBlock = some w.heap.size) := by
  obtain ⟨v', w', hr, h2, h3, h4⟩ := Lib.run_append_own_string (P := P) w base t u ty e i ht hu hi hz hsize hby v n xs hown s h63 hbytes hbase
  refine ⟨v', w', hr, h2, h3, ?_⟩
  have hsmall : n + s.size ≤ 9223372036854775807 := by simp only [maxLen] at h63; omega
  rcases hown.2 with ⟨rfl, rfl⟩ | ⟨g, cap, cur, rfl, hbg, hg, hnc, hcm, hcs, htake⟩
  · by_cases hm : s.size = 0
    · left; rw [h4.2 ⟨rfl, hm⟩]
    · have hr2 := run_append_nil_string (P := P) w t u ty e i (.int .u8 0) ht hu hi hz s (by omega) (by omega) (by rw [hby]; omega)
      rw [hr] at hr2
      injection hr2 with h5 h6
      right; rw [h5]; rfl
  · by_cases hroom : n + s.size ≤ cap
    · have hr2 := Lib.run_append_room_string (P := P) w t u ty e i ht hu hi hsize g n cap cur hg s hroom (by omega)
      rw [hr] at hr2
      injection hr2 with h5 h6
      left; rw [h5]; rfl
    · have hr2 := Lib.run_append_grow_string (P := P) w t u ty e i (.int .u8 0) ht hu hi hz ⟨g, 0, none⟩ n cap xs (by rw [hsize]; exact hown.1) (hown.cells (g := g) rfl) s (by omega) (by omega) (by rw [hby]; exact growslice_fits (by omega) (by omega))
      rw [hr] at hr2
      injection hr2 with h5 h6
      right; rw [h5]; rfl

/-- append(b, s...) for the walk. -/
theorem wpList_str {P : Program} {w : World} {ops : Array Oper} {rest : List Oper} {o : Oper} {a : Act} {Q : Exit → Act → World → Prop} (hgd : o.guard = none) (sl x : Operand) (t u : TypeId)
    (ho : o.op = .call { callee := .builtin .append, args := #[sl, x], argTypes := #[t, u] })
    (base : Nat) (i : TypeInfo) (ht : P.underlying t = some (.slice 5)) (hu : P.underlying u = some .string) (hi : P.info? 5 = some i) (hz : i.zero = some (.int .u8 0))
    (hsize : i.size = 1) (hby : i.bytes = 1)
    (v : Value) (n : Nat) (xs : List Int) (hs : a.eval sl = v) (hn : n = xs.length) (hown : w.ownsRow base 5 1 v n (bs xs)) (s : ByteArray) (hx : a.eval x = .string s)
    (hbytes : n + s.size ≤ 1000000) (hbase : base ≤ w.heap.size)
    (h : ∀ v' w', Appended base v xs (s.data.toList.map fun c => (c.toNat : Int)) w v' w' → wpList P ops Q rest (a.put o.dst v') w') : wpList P ops Q (o :: rest) a w := by
  subst hn
  refine wpList_plain hgd fun K hK => ?_
  obtain ⟨v', w', hr, h2, h3, h4⟩ := run_append_str_lies (P := P) w base t u o.type 5 i ht hu hi hz hsize hby v _ _ hown s (by unfold maxLen; omega) (by omega) hbase
  unfold Oper.wp execOp
  simp only [ho, resolve, invoke, builtin, Sem.run_bind, Sem.run_pure, Result.andThen_ok, List.map_toArray, List.map_cons, List.map_nil, hs, hx, hr]
  refine hK _ _ (h v' w' ⟨?_, Kept.grown h3 (fun k hk => by simp [hk]), ?_, ?_⟩)
  · have e1 : bs (xs ++ s.data.toList.map fun c => (c.toNat : Int)) = bs xs ++ Lib.strCells s := by simp [bs, Lib.strCells]
    have e2 : (s.data.toList.map fun c => (c.toNat : Int)).length = s.size := by simp
    rw [e1, e2]; exact h2
  · rcases h4 with h4 | h4
    · exact .inl h4
    · exact .inr fun g hg => by rw [h4] at hg; simp at hg; omega
  · intro hnone
    rcases h4 with h4 | h4
    · rw [← h4]; exact hnone
    · rw [h4] at hnone; cases hnone

/-- append(b, xs...) for the walk: what is appended lies in memory. -/
theorem wpList_bytes {P : Program} {w : World} {ops : Array Oper} {rest : List Oper} {o : Oper} {a : Act} {Q : Exit → Act → World → Prop} (hgd : o.guard = none) (sl x : Operand) (t : TypeId)
    (ho : o.op = .call { callee := .builtin .append, args := #[sl, x], argTypes := #[t, t] })
    (base : Nat) (i : TypeInfo) (ht : P.underlying t = some (.slice 5)) (hi : P.info? 5 = some i) (hz : i.zero = some (.int .u8 0))
    (hsize : i.size = 1) (hby : i.bytes = 1)
    (v : Value) (n : Nat) (xs : List Int) (hs : a.eval sl = v) (hn : n = xs.length) (hown : w.ownsRow base 5 1 v n (bs xs)) (ad : Addr) (m c : Nat) (news : List Int) (hx : a.eval x = .slice (some ad) m c) (hm : m = news.length) (hm0 : 0 < m)
    (hnews : ∀ j u, (bs news)[j]? = some u → w.cell? (ad.add j) = some u) (hbytes : n + m ≤ 1000000) (hbase : base ≤ w.heap.size)
    (h : ∀ v' w', Appended base v xs news w v' w' → wpList P ops Q rest (a.put o.dst v') w') : wpList P ops Q (o :: rest) a w := by
  subst hn
  subst hm
  refine wpList_append_lies w hgd sl x t ho base 5 i (.int .u8 0) 1 1 ht hi hz hsize hby rfl (by decide) v _ _ hs hown ad _ c (bs news) hx (by simp [bs]) hnews (by intro u hu; simp [bs] at hu; obtain ⟨_, _, rfl⟩ := hu; rfl) hm0 (by unfold maxLen; omega) (by omega) hbase w.heap.size rfl ?_
  intro g cap w' h2 h3 h4 h5
  refine h _ w' ⟨by simpa [bs] using h2, Kept.grown h3 (fun k hk => by simp [hk]), ?_, by simp [Value.ownBlock]⟩
  rcases h4 with h4 | h4
  · exact .inl h4.symm
  · exact .inr fun g' hg' => by simp [Value.ownBlock] at hg'; omega
end Go.Proofs.YbulkcqsiFmt
