import Derived.Test.Qxb6602505aDoorStrs
import Derived.Maps.Own
import Derived.Maps.OwnSet
import Derived.Maps.StringElems
namespace Go.Proofs.Qxb6602505aDoor
open Go.RowKit Go.Maps Go.WideMaps Go.WideElems
variable {w w1 : World} {a1 a2 : Option Addr} {n c1 c2 : Nat} {ks vs : Nat → ByteArray}

theorem law : Keyed Tryd.prog 9 := string_keyed Tryd.underlying9
theorem zero9 (w : World) : (zeroValue 9).run Tryd.prog w = .ok (.string ⟨#[]⟩) w := by kernel_rfl
theorem make_map (n : Int) (w : World) : (Instr.makeMap 26 (some (.int .i64 n))).run Tryd.prog w = .ok (.map (some w.heap.size)) (w.alloc (.map #[] 0)) := by
  simp [Instr.makeMap, run_underlying Tryd.underlying26, asInt, asIntOf, Result.andThen]

/-- a map of strings at block b that reads as D -/
abbrev MM (w : World) (b k : Nat) (D : DataW Unit) : Prop := w.ownsMap Tryd.prog 9 (plainElem Tryd.prog 9) b k D

set_option maxHeartbeats 400000 in
theorem build_nil (w : World) : Calls Tryd.prog 8 #[.slice a1 0 c1, .slice a2 0 c2] w fun e w' => e = .returned (.map none) ∧ w' = w := by
  go_enter Tryd.func8, Tryd.ntmps8
  go_wp2
  go_ret
  exact ⟨rfl, rfl⟩

set_option maxHeartbeats 1000000 in
theorem build_some (w : World) (hk : SS w a1 n ks) (hv : SS w a2 n vs) (hn : n ≤ 65536) (h0 : 0 < n) :
    Calls Tryd.prog 8 #[.slice a1 n c1, .slice a2 n c2] w fun e w' => e = .returned (.map (some w.heap.size)) ∧ (∃ D, MM w' w.heap.size n D) ∧ Below w.heap.size w w' := by
  have hmm := make_map
  have hz : ((n : Int) == 0) = false := by rw [beq_eq_false_iff_ne]; omega
  go_enter Tryd.func8, Tryd.ntmps8
  go_wp2
  go_loopw [6] (fun i wr => ∃ k : Nat, k ≤ n ∧ i = .int .i64 k ∧ (∃ D, MM wr w.heap.size k D) ∧ Below w.heap.size w wr) (fun i _ => n - (intOf i).toNat)
  case atStart => exact ⟨0, Nat.zero_le _, rfl, ⟨_, World.ownsMap_made _ _ _ _⟩, (Below.refl _ _).alloc (Nat.le_refl _) _⟩
  case round =>
    obtain ⟨k, hkn, rfl, ⟨D, hD⟩, hb⟩ := hrel
    by_cases hlt : k < n
    · have hki : (k : Int) < (n : Int) := by omega
      obtain ⟨b1, o1, rfl, l1, d1, m1⟩ := hk k hlt
      obtain ⟨b2, o2, rfl, l2, d2, m2⟩ := hv k hlt
      have r1 : wr.cell? ⟨b1, o1 + k, none⟩ = some (.string (ks k)) := by rw [hb.cell (p := ⟨b1, o1 + k, none⟩) l1, d1]
      have r2 : wr.cell? ⟨b2, o2 + k, none⟩ = some (.string (vs k)) := by rw [hb.cell (p := ⟨b2, o2 + k, none⟩) l2, d2]
      clear d1 d2 hmm
      obtain ⟨S, hS⟩ : ∃ S, S = ks k := ⟨_, rfl⟩
      obtain ⟨V, hV⟩ : ∃ V, V = vs k := ⟨_, rfl⟩
      rw [← hS] at r1 m1
      rw [← hV] at r2 m2
      clear hS hV
      obtain ⟨w2, hrun, hown, hgr⟩ := World.ownsMap.update (w := wr.drew) hD law Tryd.underlying26 (by unfold maxLen; omega) (keyOf_string_mk Tryd.underlying9 m1) (plainElem_string Tryd.underlying9 m2)
      go_wp2
      go_region
      all_goals
        go_wp2
        go_roundw
        case rel => exact ⟨k + 1, by omega, by go_num, ⟨_, hown⟩, (hb.drew).grown hgr (by exact hb.size) (fun j hj => by cases hj; exact Nat.le_refl _)⟩
        case measure => simp [intOf]; omega
    · have hkn : k = n := by omega
      subst hkn
      go_wp2
      go_ret
      exact ⟨rfl, ⟨D, hD⟩, hb⟩

/-- what a look-up gives, in every later world -/
def Looks (w : World) (m : Value) (key s : ByteArray) (ok : Bool) : Prop :=
  ∀ W : World, Below w.heap.size w W → (Instr.lookup 26 m (.string key) true).run Tryd.prog W = .ok (.tuple #[.string s, .bool ok]) W

theorem looks_nil (w : World) (key : ByteArray) (hk : key.size ≤ maxLen) : Looks w (.map none) key ⟨#[]⟩ false := by
  intro W _
  have := Maps.look_nil (w := W) true law Tryd.underlying26 (zero9 W) (keyOf_string_mk (s := key) Tryd.underlying9 hk)
  simpa using this

theorem looks_map {b k : Nat} {D : DataW Unit} (h : MM w b k D) (key : ByteArray) (hk : key.size ≤ maxLen) : ∃ s ok, Looks w (.map (some b)) key s ok := by
  have hz : plainElem (H := Unit) Tryd.prog 9 (.string ⟨#[]⟩) = some (.lit (.string []), []) := plainElem_string Tryd.underlying9 (by decide)
  have one : ∀ W : World, MM W b k D → ∃ s : ByteArray, (Instr.lookup 26 (.map (some b)) (.string key) true).run Tryd.prog W = .ok (.tuple #[.string s, .bool (Maps.has D (.string key.data.toList))]) W ∧ D.atKey (.string key.data.toList) (.lit (.string [])) = .lit (.string s.data.toList) := by
    intro W hW
    obtain ⟨v, ps, hrun, hv⟩ := World.ownsMap.look_ok hW law Tryd.underlying26 (zero9 W) hz (keyOf_string_mk (s := key) Tryd.underlying9 hk)
    obtain ⟨s, rfl, hs, _⟩ := plainElem_string_inv Tryd.underlying9 hv
    simp only [Prod.mk.injEq] at hs
    exact ⟨s, hrun, hs.1⟩
  obtain ⟨s, _, hs⟩ := one w h
  refine ⟨s, Maps.has D (.string key.data.toList), fun W hb => ?_⟩
  have hW : MM W b k D := by
    have hlt := h.lt
    obtain ⟨es, clock, h1, h2⟩ := h
    exact ⟨es, clock, by rw [hb.block b hlt]; exact h1, h2⟩
  obtain ⟨s', hrun, hs'⟩ := one W hW
  rw [hs] at hs'
  have : s = s' := by
    simp only [DataW.lit.injEq, Lit.string.injEq] at hs'
    exact Go.WideShapes.bytes_inj hs'
  rw [this]
  exact hrun

end Go.Proofs.Qxb6602505aDoor
