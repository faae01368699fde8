import Derived.Deep.RegionHeld3
import Derived.Deep.DrawnRows
namespace Go.Proofs.YbulkcqsiFmt
set_option linter.unusedVariables false
set_option linter.unusedSimpArgs false
section
variable {P : Program} {ops : Array Oper} {Q : Exit → Act → World → Prop} {md : Region.Mode} {S : World → Prop} {T : List Nat}

/-- Operation number j waits for each of T by an edge of its own. -/
def waitsFor (md : Region.Mode) (ops : Array Oper) (T : List Nat) (j : Nat) : Bool :=
  T.all fun k => ((ops[j]?).map fun o => o.after.any fun e => Region.binds md e && e.on == k).getD false

/-- Whatever order is picked from here on, and S holds behind every operation that is carried out, but for those that wait for all of T (the operations that lean on S). After Derived/OrdersHeld.lean's 'wpAnyH', where none is spared. -/
def wpAnyL (P : Program) (md : Region.Mode) (ops : Array Oper) (Q : Exit → Act → World → Prop) (S : World → Prop) (T : List Nat) : Nat → Array Bool → Act → World → Prop
  | 0, listed, a, w => Region.ready md ops listed = [] ∧ Q .normal a w
  | fuel + 1, listed, a, w =>
    (Region.ready md ops listed = [] → Q .normal a w) ∧
    ∀ i ∈ Region.ready md ops listed, wpOp P ops Q i (fun a' w' => (waitsFor md ops T i = false → S w → S w') ∧ wpAnyL P md ops Q S T fuel (listed.setIfInBounds i true) a' w') a w

theorem wpAny_of_last : ∀ (fuel : Nat) (listed : Array Bool) (a : Act) (w : World), wpAnyL P md ops Q S T fuel listed a w → wpAny P md ops Q fuel listed a w
  | 0, _, _, _, h => h
  | fuel + 1, _, _, _, h => ⟨h.1, fun i hi => wpOp_mono (fun a' w' h' => wpAny_of_last fuel _ a' w' h'.2) (h.2 i hi)⟩

theorem waits_false {T : List Nat} {i j : Nat} {oj : Oper} (hi : i ∈ T) (hoj : ops[j]? = some oj) (hnot : ∀ e ∈ oj.after, Region.binds md e = true → e.on ≠ i) : waitsFor md ops T j = false := by
  unfold waitsFor
  rw [List.all_eq_false]
  refine ⟨i, hi, ?_⟩
  simp only [hoj, Option.map_some, Option.getD_some, Array.any_eq_true, not_exists, Bool.and_eq_true, beq_iff_eq, not_and]
  intro k hk hb he
  exact hnot _ (Array.getElem_mem hk) hb he

theorem wpAnyL_first {i : Nat} {oi : Oper} {v : Value} (hi : ops[i]? = some oi) (hsel : ∀ (j : Nat) (o : Oper) cs b, ops[j]? = some o → o.op ≠ .select cs b)
    (hQ : ∀ c a w, Q (.panic c) (a.put oi.dst v) w → Q (.panic c) a w) (S' : World → Prop) (hT : (∀ w, S' w) ∨ (i ∈ T ∧ S' = S)) :
    ∀ (fuel : Nat) (listed : Array Bool) (a : Act) (w : World),
      (∀ j oj, ops[j]? = some oj → j ≠ i → listed.getD j true = false → (∀ e ∈ oj.after, Region.binds md e = true → e.on ≠ i) → oi.apart ops oj = true) →
      i ∈ Region.ready md ops listed → YieldsIf P ops S' oi v a → S' w →
      wpAnyL P md ops Q S T fuel (listed.setIfInBounds i true) (a.put oi.dst v) w → wpAnyL P md ops Q S T (fuel + 1) listed a w := by
  intro fuel
  induction fuel with
  | zero =>
    intro listed a w _ hr hy hS H
    refine ⟨fun h => (by rw [h] at hr; cases hr), fun j hj => ?_⟩
    by_cases hji : j = i
    · subst hji; exact hy.wpOp hi hS ⟨fun _ h => h, H⟩
    · have := ready_mono hj hji
      rw [H.1] at this
      cases this
  | succ fuel ih =>
    intro listed a w hfree hr hy hS H
    refine ⟨fun h => (by rw [h] at hr; cases hr), fun j hj => ?_⟩
    by_cases hji : j = i
    · subst hji; exact hy.wpOp hi hS ⟨fun _ h => h, H⟩
    · have h1 := H.2 j (ready_mono hj hji)
      obtain ⟨hjun, oj, hoj, hall⟩ := mem_ready.1 hj
      have hnot : ∀ e ∈ oj.after, Region.binds md e = true → e.on ≠ i := fun e he hb heq => by
        have h1 := hall e he hb
        have h0 := (mem_ready.1 hr).1
        rw [heq] at h1
        rcases Nat.lt_or_ge i listed.size with h' | h'
        · simp [h'] at h0 h1; rw [h0] at h1; cases h1
        · simp [Array.getElem?_eq_none h'] at h1
      have h2 := wpOp_putIf hoj (hfree j oj hoj hji hjun hnot) (fun cs b => hsel i oi cs b hi) (fun cs b => hsel j oj cs b hoj) hQ hy h1
      have hfree' : ∀ k ok, ops[k]? = some ok → k ≠ i → (listed.setIfInBounds j true).getD k true = false →
          (∀ e ∈ ok.after, Region.binds md e = true → e.on ≠ i) → oi.apart ops ok = true := fun k ok hk hki hun hno => by
        refine hfree k ok hk hki ?_ hno
        by_cases hjk : j = k
        · subst hjk; exact hjun
        · rw [getD_set_ne true hjk] at hun; exact hun
      have hri : i ∈ Region.ready md ops (listed.setIfInBounds j true) := ready_mono hr (Ne.symm hji)
      refine wpOp_mono (fun a' w' h3 => ?_) h2
      have hS' : S' w' := by
        rcases hT with h | ⟨hiT, rfl⟩
        · exact h w'
        · exact h3.2.1 (waits_false hiT hoj hnot) hS
      refine ⟨h3.2.1, ih (listed.setIfInBounds j true) a' w' hfree' hri h3.1 hS' ?_⟩
      rw [Array.setIfInBounds_comm _ _ hji]
      exact h3.2.2

section
variable {l : List Oper}
theorem at_list {i : Nat} {o : Oper} (h : l[i]? = some o) : l.toArray[i]? = some o := by simpa using h

/-- Take number i first: it yields v in every world. -/
theorem wpAnyL_free {i : Nat} {oi : Oper} {v : Value} {fuel : Nat} {listed : Array Bool} {a : Act} {w : World} (hi : l[i]? = some oi)
    (hs : Region.noSelect l.toArray = true) (hf : Region.free md l.toArray listed i = true) (hr : (Region.ready md l.toArray listed).contains i = true)
    (hQ : ∀ c a w, Q (.panic c) (a.put oi.dst v) w → Q (.panic c) a w) (hw : Region.wanted oi (yielded l.toArray a.tmps) = true) (hy : ∀ w, (execOp a.eval oi).run P w = .ok (.value v) w)
    (h : wpAnyL P md l.toArray Q S T fuel (listed.setIfInBounds i true) (a.put oi.dst v) w) : wpAnyL P md l.toArray Q S T (fuel + 1) listed a w :=
  wpAnyL_first (at_list hi) (Region.noSelect_spec hs) hQ (fun _ => True) (.inl fun _ => trivial) fuel listed a w (Region.free_spec (at_list hi) hf) (by simpa using hr) (.inl ⟨hw, fun w _ => hy w⟩) trivial h

/-- Take number i first: its guard says no. -/
theorem wpAnyL_skip {i : Nat} {oi : Oper} {fuel : Nat} {listed : Array Bool} {a : Act} {w : World} (hi : l[i]? = some oi)
    (hs : Region.noSelect l.toArray = true) (hf : Region.free md l.toArray listed i = true) (hr : (Region.ready md l.toArray listed).contains i = true)
    (hQ : ∀ c a w, Q (.panic c) (a.put oi.dst undef) w → Q (.panic c) a w) (hw : Region.wanted oi (yielded l.toArray a.tmps) = false)
    (h : wpAnyL P md l.toArray Q S T fuel (listed.setIfInBounds i true) (a.put oi.dst undef) w) : wpAnyL P md l.toArray Q S T (fuel + 1) listed a w :=
  wpAnyL_first (at_list hi) (Region.noSelect_spec hs) hQ (fun _ => True) (.inl fun _ => trivial) fuel listed a w (Region.free_spec (at_list hi) hf) (by simpa using hr) (.inr ⟨hw, rfl⟩) trivial h

/-- Take number i, one of T, first: it yields v in every world that meets S. -/
theorem wpAnyL_take {i : Nat} {oi : Oper} {v : Value} {fuel : Nat} {listed : Array Bool} {a : Act} {w : World} (hi : l[i]? = some oi) (hT : T.contains i = true)
    (hs : Region.noSelect l.toArray = true) (hf : Region.free md l.toArray listed i = true) (hr : (Region.ready md l.toArray listed).contains i = true)
    (hQ : ∀ c a w, Q (.panic c) (a.put oi.dst v) w → Q (.panic c) a w) (hw : Region.wanted oi (yielded l.toArray a.tmps) = true) (hy : ∀ w, S w → (execOp a.eval oi).run P w = .ok (.value v) w) (hS : S w)
    (h : wpAnyL P md l.toArray Q S T fuel (listed.setIfInBounds i true) (a.put oi.dst v) w) : wpAnyL P md l.toArray Q S T (fuel + 1) listed a w :=
  wpAnyL_first (at_list hi) (Region.noSelect_spec hs) hQ S (.inr ⟨by simpa using hT, rfl⟩) fuel listed a w (Region.free_spec (at_list hi) hf) (by simpa using hr) (.inl ⟨hw, hy⟩) hS h

/-- One alone may come up. -/
theorem wpAnyL_one {i : Nat} {o : Oper} {fuel : Nat} {listed : Array Bool} {a : Act} {w : World} (hr : Region.ready md l.toArray listed = [i]) (ho : l[i]? = some o) (hw : Region.wanted o (yielded l.toArray a.tmps) = true)
    (h : ∀ K' : Act → World → Prop, Shut (∀ a' w', (waitsFor md l.toArray T i = false → S w → S w') → wpAnyL P md l.toArray Q S T fuel (listed.setIfInBounds i true) a' w' → K' a' w') → Oper.wp P o a w K' Q) : wpAnyL P md l.toArray Q S T (fuel + 1) listed a w := by
  refine ⟨fun h0 => absurd (hr ▸ h0) (by simp), fun j hj => ?_⟩
  rw [hr] at hj
  obtain rfl : j = i := by simpa using hj
  refine wpOp_step (at_list ho) (fun K' hK => ?_)
  rw [if_pos hw]
  exact h K' (fun a' w' h1 h2 => hK a' w' ⟨h1, h2⟩)

/-- One alone may come up, and it waits for all of T: S need not be shown anew. -/
theorem wpAnyL_end {i : Nat} {o : Oper} {fuel : Nat} {listed : Array Bool} {a : Act} {w : World} (hr : Region.ready md l.toArray listed = [i]) (ho : l[i]? = some o) (hw : Region.wanted o (yielded l.toArray a.tmps) = true) (ht : waitsFor md l.toArray T i = true)
    (h : ∀ K' : Act → World → Prop, Shut (∀ a' w', wpAnyL P md l.toArray Q S T fuel (listed.setIfInBounds i true) a' w' → K' a' w') → Oper.wp P o a w K' Q) : wpAnyL P md l.toArray Q S T (fuel + 1) listed a w :=
  wpAnyL_one hr ho hw fun K' hK => h K' fun a' w' h1 => hK.out a' w' (fun h2 => by rw [ht] at h2; cases h2) h1

theorem wpAnyL_done {listed : Array Bool} {a : Act} {w : World} (hr : Region.ready md l.toArray listed = []) (h : Q .normal a w) :
    ∀ fuel, wpAnyL P md l.toArray Q S T fuel listed a w
  | 0 => ⟨hr, h⟩
  | _ + 1 => ⟨fun _ => h, by rw [hr]; simp⟩
end

theorem wp_region_last {id : Nat} {a : Act} {w : World} {l : List Oper} (S : World → Prop) (T : List Nat) (hm : P.follows .mixedOrders = true)
    (h : wpAnyL P .any l.toArray Q S T l.length (Array.replicate l.length false) a w.drew) : (Code.region id l.toArray true).wp P Q a w :=
  wp_region_any hm (by simpa using wpAny_of_last _ _ _ _ h)
end
end Go.Proofs.YbulkcqsiFmt
