import Derived.WalkKit
import Derived.WalkLawsBesides
import Derived.Conc.LoneCalls
import Derived.Conc.LoneSelectN
namespace Go.Proofs.Ybulkcqnm
set_option linter.unusedVariables false
set_option linter.unusedSimpArgs false
open Go.RowKit Go.Conc

/-- Code.wp, for the frames of ordinary calls alone: there a communication is a step too. -/
def wpN (P : Program) (c : Code) (Q : Exit → Act → World → Prop) (a : Act) (w : World) : Prop :=
  ∀ (b : Frame) (k : List Item) (cs : List Frame), b.kind = .normal → ∃ e a' w', Q e a' w' ∧ Arrives P (lone (b.at a (.code c :: k)) cs w) b k cs e a' w'

section
variable {P : Program} {Q : Exit → Act → World → Prop} {a : Act} {w : World}

theorem wpN_of_wp {c : Code} (h : c.wp P Q a w) : wpN P c Q a w := fun b k cs _ => h b k cs

theorem wpN_seq {x y : Code} (h : wpN P x (Exit.then (wpN P y Q) Q) a w) : wpN P (Code.seq x y) Q a w := by
  intro b k cs hb
  obtain ⟨e, a₁, w₁, hq, harr⟩ := h b (.code y :: k) cs hb
  cases e with
  | normal =>
    obtain ⟨e₂, a₂, w₂, hq₂, harr₂⟩ := hq b k cs hb
    exact ⟨e₂, a₂, w₂, hq₂, .of_steps (.head step_seq harr) harr₂⟩
  | _ => exact ⟨_, a₁, w₁, hq, .of_steps (.one step_seq) (.pass (x := .code y) rfl (fun _ _ => .inl (by simp)) harr)⟩

/-- The first part does not communicate: the kit's own walk serves. -/
theorem wpN_seq_k {x y : Code} (h : ∀ K : Act → World → Prop, (∀ a w, wpN P y Q a w → K a w) → x.wp P (Exit.then K Q) a w) : wpN P (Code.seq x y) Q a w :=
  wpN_seq (wpN_of_wp (h _ fun _ _ h => h))

theorem wpN_cond {c : Operand} {x y : Code} {t : Bool} (hc : a.eval c = .bool t) (h : wpN P (if t then x else y) Q a w) : wpN P (Code.cond c x y) Q a w :=
  fun b k cs hb => let ⟨e, a', w', q, r⟩ := h b k cs hb; ⟨e, a', w', q, .of_steps (.one (step_cond hc)) r⟩

theorem wpN_block {id : Nat} {c : Code} (h : wpN P c (Exit.inBlock id Q) a w) : wpN P (Code.block id c) Q a w := by
  intro b k cs hb
  obtain ⟨e, a₁, w₁, hq, harr⟩ := h b (.inBlock id :: k) cs hb
  cases e with
  | normal => exact ⟨.normal, a₁, w₁, hq, .head step_block (Steps.trans harr (.one step_inBlock))⟩
  | exit id' =>
    by_cases hid : id' = id
    · simp only [Exit.inBlock, hid, if_true] at hq
      exact ⟨.normal, a₁, w₁, hq, .head step_block (harr k (by simp [exitTo, hid]))⟩
    · simp only [Exit.inBlock, hid, if_false] at hq
      refine ⟨.exit id', a₁, w₁, hq, fun k' hk => .head step_block (harr k' ?_)⟩
      have : (id == id') = false := by simp; exact fun h => hid h.symm
      simp [exitTo, this, hk]
  | goto l => exact ⟨_, a₁, w₁, hq, fun k' hk => .head step_block (harr k' (by simp [gotoIn, hk]))⟩
  | ret => exact ⟨_, a₁, w₁, hq, .of_steps (.one step_block) harr⟩
  | panic ch => exact ⟨_, a₁, w₁, hq, .of_steps (.one step_block) harr⟩
  | outgrown => exact ⟨_, a₁, w₁, hq, .of_steps (b := b) (k := k) (cs := cs) (e := .outgrown) (.one step_block) harr⟩

/-- A loop: by what holds at the head of round n, n counted down. -/
theorem wpN_loop {c : Code} (I : Nat → Act → World → Prop) (n : Nat) (h₀ : I n a w)
    (round : ∀ n a w, I n a w → wpN P c (Exit.then (fun a' w' => ∃ m, m < n ∧ I m a' w') Q) a w) : wpN P (Code.loop c) Q a w := by
  intro b k cs hb
  have key : ∀ n a w, I n a w → ∃ e a' w', Q e a' w' ∧ Arrives P (lone (b.at a (.code c :: .inLoop c :: k)) cs w) b k cs e a' w' := by
    intro n
    induction n using Nat.strongRecOn with
    | _ n ih =>
      intro a w hI
      obtain ⟨e, a₁, w₁, hq, harr⟩ := round n a w hI b (.inLoop c :: k) cs hb
      cases e with
      | normal =>
        obtain ⟨m, hlt, hI₁⟩ := hq
        obtain ⟨e₂, a₂, w₂, hq₂, harr₂⟩ := ih m hlt a₁ w₁ hI₁
        exact ⟨e₂, a₂, w₂, hq₂, .of_steps (Steps.trans harr (.one step_inLoop)) harr₂⟩
      | _ => exact ⟨_, a₁, w₁, hq, .pass (x := .inLoop c) rfl (fun _ _ => .inl (by simp)) harr⟩
  obtain ⟨e, a', w', hq, harr⟩ := key n a w h₀
  exact ⟨e, a', w', hq, .of_steps (.one step_loop) harr⟩

theorem calls_of_wpN {f : FuncId} {fn : Func} {c : Code} {args : Array Value} {R : Ending → World → Prop} (hf : P.funcs[f]? = some fn) (hb : fn.body = some c)
    (h : wpN P c (bodyPost P fn R) { tmps := args ++ Array.replicate (fn.ntmps - args.size) undef, defers := [] } w) : Calls P f args w R := by
  intro cs
  let b : Frame := { (default : Frame) with fn := f, kind := .normal }
  have henter : Frame.enter P f args .normal = b.at { tmps := args ++ Array.replicate (fn.ntmps - args.size) undef, defers := [] } [.code c] := by
    simp [Frame.enter, Frame.at, hf, hb, b]
  obtain ⟨e, a', w', hq, harr⟩ := h b [] cs rfl
  rw [← henter] at harr
  cases e with
  | normal =>
    obtain ⟨hd, v, hr, hR⟩ := hq
    exact ⟨.returned v, w', _, hR, Steps.trans harr (.one step_end), rfl, rfl, hd, rfl, fn, hf, hr⟩
  | ret =>
    obtain ⟨hd, v, hr, hR⟩ := hq
    obtain ⟨todo, hs⟩ := harr
    exact ⟨.returned v, w', _, hR, hs, rfl, rfl, hd, rfl, fn, hf, hr⟩
  | panic chain =>
    obtain ⟨hd, hR⟩ := hq
    obtain ⟨todo, hs⟩ := harr
    exact ⟨.panicked chain, w', _, hR, hs, rfl, rfl, hd, fn, hf⟩
  | exit id => exact hq.elim
  | goto l => exact hq.elim
  | outgrown => exact ⟨.outgrown, w', b, hq, harr.resolve_left (by simp [b]), rfl, trivial⟩

/-- In a region: these operations are still to come. -/
def Rest (P : Program) (ops : Array Oper) (Q : Exit → Act → World → Prop) (l : List Nat) (a : Act) (w : World) : Prop :=
  ∀ (b : Frame) (k : List Item) (cs : List Frame), b.kind = .normal → ∃ e a' w', Q e a' w' ∧ Arrives P (lone (b.at a (.inRegion ops l :: k)) cs w) b k cs e a' w'

variable {ops : Array Oper} {i : Nat} {rest : List Nat} {o : Oper}

theorem Rest.nil (h : Q .normal a w) : Rest P ops Q [] a w := fun b k cs _ => ⟨.normal, a, w, h, .one step_region_end⟩

theorem wpN_region {id : Nat} (h : Rest P ops Q (List.range ops.size) a w) : wpN P (Code.region id ops false) Q a w :=
  fun b k cs hb => let ⟨e, a', w', q, r⟩ := h b k cs hb; ⟨e, a', w', q, .of_steps (.one step_region) r⟩

theorem Rest.op (ho : ops[i]? = some o) (hw : Region.wanted o (yielded ops a.tmps) = true)
    (h : ∀ K : Act → World → Prop, (∀ a' w', Rest P ops Q rest a' w' → K a' w') → uponK o a K ((execOp a.eval o).run P w)) : Rest P ops Q (i :: rest) a w := by
  intro b k cs hb
  have h1 := h _ (fun _ _ h => h)
  have hne : b.kind ≠ .early := by rw [hb]; decide
  cases hr : (execOp a.eval o).run P w with
  | halt x w' => rw [hr] at h1; exact h1.elim
  | ok x w' =>
    rw [hr] at h1
    cases x with
    | value v =>
      obtain ⟨e, a', w'', hq, harr⟩ := h1 b k cs hb
      exact ⟨e, a', w'', hq, .of_steps (.one (step_solo_go rfl (stepG_value ho hw hne hr))) harr⟩
    | skip =>
      obtain ⟨e, a', w'', hq, harr⟩ := h1 b k cs hb
      exact ⟨e, a', w'', hq, .of_steps (.one (step_solo_go rfl (stepG_none ho hw hne hr))) harr⟩
    | _ => exact h1.elim

theorem fin_at (b : Frame) (k : List Item) (ho : ops[i]? = some o) (v : Value) : (b.at a (.inRegion ops (i :: rest) :: k)).finish v = b.at (a.put o.dst v) (.inRegion ops rest :: k) := by
  rw [Frame.finish_at, ho]; rfl

/-- A send into a buffer with room. -/
theorem Rest.send {c cap s r : Nat} {buf : Array Value} {tm : Bool} {v z : Value} {w₁ : World} (ho : ops[i]? = some o) (hw : Region.wanted o (yielded ops a.tmps) = true) (hr : (execOp a.eval o).run P w = .ok (.comm #[scase c v z] true .send) w₁)
    (hc : w₁.heap[c]? = some (.chan cap buf false s r tm)) (hroom : buf.size < cap)
    (h : Rest P ops Q rest (a.put o.dst undef) (w₁.setChan c cap (buf.push v) false (s + 1) r tm)) : Rest P ops Q (i :: rest) a w := by
  intro b k cs hb
  have hne : b.kind ≠ .early := by rw [hb]; decide
  obtain ⟨e, a', w'', hq, harr⟩ := h b k cs hb
  refine ⟨e, a', w'', hq, .of_steps (.one ?_) harr⟩
  have := step_lone_send_room (stepG_comm (P := P) (main := true) (k := k) (cs := cs) (rest := rest) ho hw hne hr) hc hroom
  rw [fin_at b k ho] at this
  exact this

/-- A receive from a buffer that holds something. -/
theorem Rest.recv {c cap s r : Nat} {buf : Array Value} {tm closed ok : Bool} {z : Value} {w₁ : World} (ho : ops[i]? = some o) (hw : Region.wanted o (yielded ops a.tmps) = true) (hr : (execOp a.eval o).run P w = .ok (.comm #[rcase c z] true (.recv ok)) w₁)
    (hc : w₁.heap[c]? = some (.chan cap buf closed s r tm)) (hsome : 0 < buf.size)
    (h : Rest P ops Q rest (a.put o.dst (got ok (buf.getD 0 undef) true)) (w₁.setChan c cap (buf.extract 1 buf.size) closed s (r + 1) tm)) : Rest P ops Q (i :: rest) a w := by
  intro b k cs hb
  have hne : b.kind ≠ .early := by rw [hb]; decide
  obtain ⟨e, a', w'', hq, harr⟩ := h b k cs hb
  refine ⟨e, a', w'', hq, .of_steps (.one ?_) harr⟩
  have := step_lone_recv_buf ok (stepG_comm (P := P) (main := true) (k := k) (cs := cs) (rest := rest) ho hw hne hr) hc hsome
  rw [fin_at b k ho] at this
  exact this

/-- A select: case n, a send with room; no other case can proceed. -/
theorem Rest.selSend {cases : Array CommCase} {n c cap s r : Nat} {blocking : Bool} {buf : Array Value} {tm : Bool} {v z : Value} {w₁ : World} (ho : ops[i]? = some o) (hw : Region.wanted o (yielded ops a.tmps) = true) (hr : (execOp a.eval o).run P w = .ok (.comm cases blocking .select) w₁)
    (hk : cases[n]? = some (scase c v z)) (hno : ∀ (m : Nat) (c' : CommCase), m ≠ n → cases[m]? = some c' → NoWay w₁ c')
    (hc : w₁.heap[c]? = some (.chan cap buf false s r tm)) (hroom : buf.size < cap)
    (h : Rest P ops Q rest (a.put o.dst (commResult cases .select n undef false)) (w₁.setChan c cap (buf.push v) false (s + 1) r tm)) : Rest P ops Q (i :: rest) a w := by
  intro b k cs hb
  have hne : b.kind ≠ .early := by rw [hb]; decide
  obtain ⟨e, a', w'', hq, harr⟩ := h b k cs hb
  refine ⟨e, a', w'', hq, .of_steps (.one ?_) harr⟩
  have := step_lone_sel_send_room (stepG_comm (P := P) (main := true) (k := k) (cs := cs) (rest := rest) ho hw hne hr) hk hno hc hroom
  rw [fin_at b k ho] at this
  exact this

/-- A select with a default; no case can proceed. -/
theorem Rest.selDefault {cases : Array CommCase} {w₁ : World} (ho : ops[i]? = some o) (hw : Region.wanted o (yielded ops a.tmps) = true) (hr : (execOp a.eval o).run P w = .ok (.comm cases false .select) w₁)
    (hno : ∀ cc ∈ cases, NoWay w₁ cc)
    (h : Rest P ops Q rest (a.put o.dst (commResult cases .select (-1) undef false)) w₁) : Rest P ops Q (i :: rest) a w := by
  intro b k cs hb
  have hne : b.kind ≠ .early := by rw [hb]; decide
  obtain ⟨e, a', w'', hq, harr⟩ := h b k cs hb
  refine ⟨e, a', w'', hq, .of_steps (.one ?_) harr⟩
  have := step_lone_sel_default (stepG_comm (P := P) (main := true) (k := k) (cs := cs) (rest := rest) ho hw hne hr) hno
  rw [fin_at b k ho] at this
  exact this
end
end Go.Proofs.Ybulkcqnm
