import Derived.WalkKit
import Derived.WalkLawsBesides
import Derived.Deep.AppendLies
namespace Go.Proofs.YbulkcqsiFmt
set_option linter.unusedVariables false
set_option linter.unusedSimpArgs false
open Go.RowKit

/-- All blocks but those of S, and new ones, are as they were. -/
structure Kept (S : List Nat) (w w' : World) : Prop where
  os : w'.os = w.os
  tape : w'.tape = w.tape
  output : w'.output = w.output
  size : w.heap.size ≤ w'.heap.size
  block : ∀ k, k < w.heap.size → k ∉ S → w'.heap[k]? = w.heap[k]?

theorem Kept.refl (S : List Nat) (w : World) : Kept S w w := ⟨rfl, rfl, rfl, Nat.le_refl _, fun _ _ _ => rfl⟩
theorem Kept.trans {S : List Nat} {a b c : World} (h : Kept S a b) (k : Kept S b c) : Kept S a c :=
  ⟨k.os.trans h.os, k.tape.trans h.tape, k.output.trans h.output, Nat.le_trans h.size k.size, fun i hi hn => (k.block i (Nat.lt_of_lt_of_le hi h.size) hn).trans (h.block i hi hn)⟩
theorem Kept.mono {S S' : List Nat} {w w' : World} (h : Kept S w w') (hs : ∀ x, x ∈ S → x ∈ S') : Kept S' w w' :=
  ⟨h.os, h.tape, h.output, h.size, fun k hk hn => h.block k hk fun hx => hn (hs k hx)⟩
/-- Blocks of S that are new in the middle need not be named. -/
theorem Kept.trans' {S S' : List Nat} {a b c : World} (h : Kept S a b) (k : Kept S' b c) (hs : ∀ x, x ∈ S' → x ∈ S ∨ a.heap.size ≤ x) : Kept S a c :=
  ⟨k.os.trans h.os, k.tape.trans h.tape, k.output.trans h.output, Nat.le_trans h.size k.size, fun i hi hn => (k.block i (Nat.lt_of_lt_of_le hi h.size) fun hx => by rcases hs i hx with h1 | h1; exact hn h1; omega).trans (h.block i hi hn)⟩
theorem Kept.ofBelow {S : List Nat} {w w' : World} (h : Below w.heap.size w w') : Kept S w w' :=
  ⟨h.os, h.tape, h.output, h.size, fun k hk _ => h.block k hk⟩
theorem Kept.below {S : List Nat} {B : Nat} {w w' : World} (h : Kept S w w') (hB : B ≤ w.heap.size) (hs : ∀ x, x ∈ S → B ≤ x) : Below B w w' :=
  ⟨h.os, h.tape, h.output, h.size, fun k hk => h.block k (by omega) fun hx => by have := hs k hx; omega⟩
theorem Kept.alloc (S : List Nat) (w : World) (o : Obj) : Kept S w (w.alloc o) :=
  ⟨rfl, rfl, rfl, by simp, fun k hk _ => Below.heap_alloc _ _ _ hk⟩
theorem Kept.drew (S : List Nat) (w : World) : Kept S w w.drew := ⟨rfl, rfl, rfl, Nat.le_refl _, fun _ _ _ => rfl⟩
theorem Kept.setCell {S : List Nat} (w : World) (a : Addr) (v : Value) (h : a.block ∈ S) : Kept S w (w.setCell a v) :=
  ⟨rfl, rfl, rfl, by simp [World.setCell], fun k _ hn => Below.heap_setCell _ _ _ _ fun e => hn (e ▸ h)⟩
theorem Kept.grown {S : List Nat} {w w' : World} {row : Option Nat} (hg : w.grownBy w' row) (hr : ∀ k, row = some k → k ∈ S) : Kept S w w' :=
  ⟨hg.os, hg.tape, hg.output, hg.size, fun k hk hn => hg.block k hk fun e => hn (hr k e.symm)⟩
theorem Kept.at {S : List Nat} {w w' : World} (h : Kept S w w') {b : Nat} {o : Obj} (hb : w.heap[b]? = some o) (hn : b ∉ S) : w'.heap[b]? = some o := by
  rw [h.block b (Array.getElem?_eq_some_iff.1 hb).1 hn]; exact hb
theorem Kept.owns {S : List Nat} {w w' : World} (h : Kept S w w') {base : Nat} {e : TypeId} {size : Nat} {v : Value} {n : Nat} {xs : List Value} (hw : w.ownsRow base e size v n xs) (hn : ∀ k, v.ownBlock = some k → k ∉ S) : w'.ownsRow base e size v n xs := by
  refine ⟨hw.1, ?_⟩
  rcases hw.2 with hn' | ⟨g, cap, cur, rfl, hb, hgg, rest⟩
  · exact .inl hn'
  · exact .inr ⟨g, cap, cur, rfl, hb, h.at hgg (hn g rfl), rest⟩

theorem lt_of_at {w : World} {b : Nat} {o : Obj} (hb : w.heap[b]? = some o) : b < w.heap.size := (Array.getElem?_eq_some_iff.1 hb).1
theorem cell_at {w : World} {b : Nat} {cs : Array Value} {t : TypeId} {fr : Nat × Nat} (hb : w.heap[b]? = some (.cells cs t fr)) (o : Nat) {v : Value} (hv : cs[o]? = some v) : w.cell? ⟨b, o, none⟩ = some v := by
  rw [cell_of_row w b o cs t fr hb, hv]
theorem frozen_at {w : World} {b : Nat} {cs : Array Value} {t : TypeId} (hb : w.heap[b]? = some (.cells cs t)) (o : Nat) : w.frozen? ⟨b, o, none⟩ = false := by
  simp [World.frozen?, hb]
theorem set_at {w : World} {b : Nat} {cs : Array Value} {t : TypeId} {fr : Nat × Nat} (hb : w.heap[b]? = some (.cells cs t fr)) (o : Nat) (v : Value) :
    (w.setCell ⟨b, o, none⟩ v).heap[b]? = some (.cells (cs.setIfInBounds o v) t fr) := by
  simp [World.setCell, Array.getElem?_modify, hb]
theorem alloc_at (w : World) (o : Obj) : (w.alloc o).heap[w.heap.size]? = some o := heap_alloc_new w o
theorem Kept.grownAlloc {w w' : World} {o : Obj} {row : Option Nat} (hg : (w.alloc o).grownBy w' row) : Kept row.toList w w' :=
  (Kept.alloc _ _ _).trans (Kept.grown hg (fun k hk => by simp [hk]))
theorem not_mem_toList {o : Option Nat} {e : Nat} (h : o ≠ some e) : e ∉ o.toList := by cases o <;> simp_all [eq_comm]
theorem Kept.cell {S : List Nat} {w1 w2 : World} (hk : Kept S w1 w2) {b o : Nat} {v : Value} (h : w1.cell? ⟨b, o, none⟩ = some v) (hn : b ∉ S) : w2.cell? ⟨b, o, none⟩ = some v := by
  rw [World.cell?_of_block (w := w1) (hk.block b (World.block_lt_of_cell? w1 _ h) hn)]; exact h
end Go.Proofs.YbulkcqsiFmt
