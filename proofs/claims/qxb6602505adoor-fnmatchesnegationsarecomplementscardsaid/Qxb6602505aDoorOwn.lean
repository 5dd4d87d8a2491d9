/-
  DERIVED. Blocks of the call's own, by an index function: 'Own w g n f': block g holds n cells, cell i holds 'f i', none is frozen.
-/
import Derived.WalkKit
import Derived.WalkSpells
import Derived.WalkLawsBesides
import Derived.Deep.QuietTactic
import Derived.BigQuiet
namespace Go.Proofs.Qxb6602505aDoor
open Go.RowKit

/-- Block g of w is a row of n cells, not frozen; cell i holds f i. -/
def Own (w : World) (g n : Nat) (f : Nat → Value) : Prop :=
  ∃ (cur : Array Value) (e : TypeId), w.heap[g]? = some (.cells cur e (0, 0)) ∧ cur.size = n ∧ ∀ i, i < n → cur[i]? = some (f i)

theorem Own.lt {w : World} {g n : Nat} {f : Nat → Value} (h : Own w g n f) : g < w.heap.size := by
  obtain ⟨_, _, h, _⟩ := h
  exact lt_of_block h

theorem Own.cell {w : World} {g n : Nat} {f : Nat → Value} (h : Own w g n f) {i : Nat} (hi : i < n) : w.cell? ⟨g, i, none⟩ = some (f i) := by
  obtain ⟨c, e, h, hs, hf⟩ := h
  have := hf i hi
  simp [World.cell?, h, this]

theorem Own.free {w : World} {g n : Nat} {f : Nat → Value} (h : Own w g n f) (i : Nat) : w.frozen? ⟨g, i, none⟩ = false := by
  obtain ⟨c, e, h, hs, hf⟩ := h
  simp [World.frozen?, h]

theorem Own.set {w : World} {g n : Nat} {f : Nat → Value} (h : Own w g n f) (j : Nat) (u : Value) : Own (w.setCell ⟨g, j, none⟩ u) g n (fun i => if i = j then u else f i) := by
  obtain ⟨c, e, h, hs, hf⟩ := h
  have hlt := lt_of_block h
  have h' : w.heap[g] = .cells c e (0, 0) := by simpa [Array.getElem?_eq_getElem hlt] using h
  refine ⟨c.setIfInBounds j u, e, ?_, by simpa using hs, fun i hi => ?_⟩
  · show (w.heap.modify g _)[g]? = _
    rw [Array.getElem?_eq_getElem (by simpa using hlt), Array.getElem_modify_self, h']
    rfl
  · rw [Array.getElem?_setIfInBounds]
    by_cases hij : j = i
    · subst hij
      simp [hs, hi]
    · have hji : ¬ i = j := fun h => hij h.symm
      simp [hij, hji, hf i hi]

theorem Own.other {w : World} {g n : Nat} {f : Nat → Value} (h : Own w g n f) {a : Addr} (ha : g ≠ a.block) (u : Value) : Own (w.setCell a u) g n f := by
  obtain ⟨c, e, h, hs, hf⟩ := h
  exact ⟨c, e, by rw [Below.heap_setCell _ _ _ _ ha]; exact h, hs, hf⟩

theorem Own.alloc {w : World} {g n : Nat} {f : Nat → Value} (h : Own w g n f) (o : Obj) : Own (w.alloc o) g n f := by
  have hl := h.lt
  obtain ⟨c, e, h, hs, hf⟩ := h
  exact ⟨c, e, by rw [Below.heap_alloc _ _ _ hl]; exact h, hs, hf⟩

theorem Own.drew {w : World} {g n : Nat} {f : Nat → Value} (h : Own w g n f) : Own w.drew g n f := h

theorem Own.below {w w' : World} {B g n : Nat} {f : Nat → Value} (h : Own w g n f) (hb : Below B w w') (hg : g < B) : Own w' g n f := by
  obtain ⟨c, e, h, hs, hf⟩ := h
  exact ⟨c, e, by rw [hb.block g hg]; exact h, hs, hf⟩

theorem Own.congr {w : World} {g n : Nat} {f f' : Nat → Value} (h : Own w g n f) (he : ∀ i, i < n → f i = f' i) : Own w g n f' := by
  obtain ⟨c, e, h, hs, hf⟩ := h
  exact ⟨c, e, h, hs, fun i hi => by rw [hf i hi, he i hi]⟩

theorem Own.new (w : World) (cs : Array Value) (e : TypeId) : Own (w.alloc (.cells cs e)) w.heap.size cs.size (fun i => cs.getD i undef) := by
  refine ⟨cs, e, heap_alloc_new w _, rfl, fun i hi => ?_⟩
  simp [hi]

theorem Own.made (w : World) (z : Array Value) (n : Nat) (e : TypeId) : Own (w.alloc (.cells (madeCells z n) e)) w.heap.size n (fun i => z[i % z.size]!) := by
  refine ⟨_, e, heap_alloc_new w _, size_madeCells _ _, fun i hi => ?_⟩
  simp [madeCells, hi]

theorem below_drewN {B : Nat} {a w : World} (h : Below B a w) (n : Nat) : Below B a (w.drewN n) := ⟨h.os, h.tape, h.output, h.size, h.block⟩

theorem bcell {B : Nat} {W w1 : World} (hb : Below B W w1) : (∀ b o, b < B → w1.cell? ⟨b, o, none⟩ = W.cell? ⟨b, o, none⟩) ∧ (∀ b o, b < B → w1.frozen? ⟨b, o, none⟩ = W.frozen? ⟨b, o, none⟩) :=
  ⟨fun b o h => hb.cell (p := ⟨b, o, none⟩) h, fun b o h => hb.frozen (p := ⟨b, o, none⟩) h⟩

end Go.Proofs.Qxb6602505aDoor
