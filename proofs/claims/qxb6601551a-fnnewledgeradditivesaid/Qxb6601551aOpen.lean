import Derived.Test.Qxb6601551aCopy
import Derived.Deep.SlicePairs
import Derived.ProofKit
namespace Go.Proofs.Qxb6601551a
open Go.RowKit Go.ChangeShapes Go.WideShapes

theorem lt_of_cell {w : World} {a : Addr} {v : Value} (h : w.cell? a = some v) : a.block < w.heap.size := by
  unfold World.cell? at h
  rcases Nat.lt_or_ge a.block w.heap.size with h' | h'
  · exact h'
  · simp [Array.getElem?_eq_none h'] at h

/-- FROM THE READING OF AN ARGUMENT OF TYPE []B1Reading TO WHAT THE WALKS ASK. -/
theorem open_ps {H : Type} {enc : TypeId × Value → H} {W : World} {ao : Option Addr} {n cap : Nat} {d : DataW H} {p : List MemPlace}
    (h : DataW.Trod enc Try.prog W 0 (fun _ => true) true 26 (.slice ao n cap) d p) :
    n ≤ maxLen ∧ ((ao = none ∧ n = 0 ∧ cap = 0) ∨ ∃ a, ao = some a) ∧ ∃ f l, PS W ao n f l := by
  obtain ⟨fuel, hf⟩ := h
  rcases Deep.open_slice_pairs Try.underlying26 Try.underlying31 (by kernel_rfl) (by kernel_rfl) (by kernel_rfl) (by kernel_rfl) (by kernel_rfl) hf with ⟨hcs, _⟩ | ⟨a, len, cp, m, k, V0, V1, D0, D1, P0, P1, hcs, _, hl, hm, hmm, _, hx⟩
  · simp [Value.cells] at hcs
    obtain ⟨rfl, rfl, rfl⟩ := hcs
    exact ⟨by unfold maxLen; omega, .inl ⟨rfl, rfl, rfl⟩, fun _ => 0, fun _ => false, fun i hi => absurd hi (Nat.not_lt_zero _)⟩
  · simp [Value.cells] at hcs
    obtain ⟨rfl, rfl, rfl⟩ := hcs
    simp at hmm
    subst hmm
    refine ⟨by omega, .inr ⟨_, rfl⟩, ?_⟩
    obtain ⟨f, hf'⟩ := Deep.choose_lt (α := Int) (p := fun i z => W.cell? (a.add (i * 2)) = some (.int .u64 z)) (fun i (hi : i < n) => by
      obtain ⟨h0, _, t0, _⟩ := hx i (by omega)
      obtain ⟨z, hz, _⟩ := DataW.trod_int (k := .u64) Try.underlying29 t0
      simp at hz
      exact ⟨z, by rw [h0, hz]⟩)
    obtain ⟨l, hl'⟩ := Deep.choose_lt (α := Bool) (p := fun i z => W.cell? (a.add (i * 2 + 1)) = some (.bool z)) (fun i (hi : i < n) => by
      obtain ⟨_, h1, _, t1⟩ := hx i (by omega)
      obtain ⟨z, hz, _⟩ := DataW.trod_bool Try.underlying4 t1
      simp at hz
      exact ⟨z, by rw [h1, hz]⟩)
    refine ⟨f, l, fun i hi => ?_⟩
    obtain ⟨b, off, spot⟩ := a
    have h0 := hf' 0 (by omega)
    have hspot : spot = none := by simpa [Addr.add] using World.cell?_spot h0
    subst hspot
    have e0 := hf' i hi
    have e1 := hl' i hi
    have a0 : (⟨b, off, none⟩ : Addr).add (i * 2) = ⟨b, off + i * 2, none⟩ := add_plain ..
    have a1 : (⟨b, off, none⟩ : Addr).add (i * 2 + 1) = ⟨b, off + i * 2 + 1, none⟩ := add_plain ..
    rw [a0] at e0
    rw [a1] at e1
    exact ⟨b, off, rfl, lt_of_cell e0, e0, e1⟩

end Go.Proofs.Qxb6601551a
