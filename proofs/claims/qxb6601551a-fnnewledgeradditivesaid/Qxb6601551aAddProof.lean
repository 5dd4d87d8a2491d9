import Derived.Test.Qxb6601551aRows
import Derived.Test.Qxb6601551aAdd
import Derived.Test.Qxb6601551aOpen
import Derived.WalkKit
import Derived.ProofKit
import Derived.OpenShut
import Derived.ShutString
import Derived.ChangeOld
import Derived.Below
namespace Go.Proofs.Qxb6601551a.additive
open Go.ChangeShapes Go.WideShapes Go.ChangeAt Go.RowKit
open Go.ChangeMaps (open_string shut_string)

theorem own : ownKnob Try.prog.godebug = none := by kernel_rfl
theorem laidOut : laidOutB Try.prog = true := by kernel_rfl

theorem walk (x : Int) (a1 a2 : Option Addr) (n1 c1 n2 c2 : Nat) (w : World) (h1 : n1 ≤ maxLen) (h2 : n2 ≤ maxLen)
    (g1 : (a1 = none ∧ n1 = 0 ∧ c1 = 0) ∨ ∃ a, a1 = some a) (g2 : (a2 = none ∧ n2 = 0 ∧ c2 = 0) ∨ ∃ a, a2 = some a) (p1 : ∃ f l, PS w a1 n1 f l) (p2 : ∃ f l, PS w a2 n2 f l) :
    Calls Try.prog 5 #[.int .i64 x, .slice a1 n1 c1, .slice a2 n2 c2] w fun e w' => e = .returned (.bool true) ∧ Below w.heap.size w w' := by
  obtain ⟨f1, l1, p1⟩ := p1
  obtain ⟨f2, l2, p2⟩ := p2
  by_cases h : 32768 < n1 ∨ 32768 < n2
  · exact add_big w x a1 a2 n1 c1 n2 c2 h1 h2 h
  · exact add_in w x a1 a2 n1 c1 n2 c2 f1 f2 l1 l2 (by omega) (by omega) g1 g2 p1 p2

set_option maxRecDepth 100000 in
theorem lifted (os : Os) (started : os.Started) (H : Type) (enc : TypeId × Value → H) :
    ReturnsInHanded {} Try.checked os 5 .any (Rows.fnNewLedgerAdditiveSpec.pre6 enc Try.prog Try.f5 Rows.fnNewLedgerAdditiveRow.domain false) (Rows.fnNewLedgerAdditiveSpec.post enc Try.prog Try.f5 false true false false) := by
  refine returnsInHanded_of_change (C := Try.checked) own started (by kernel_rfl) Try.func5
    (ChangeSpec.witness6 (enc := enc) (C := Try.checked) false ⟨#[], #[.int .i64 0, .slice none 0 0, .slice none 0 0], []⟩ 8 (by kernel_rfl) (by kernel_rfl) (by kernel_rfl) (by kernel_rfl)) ?_
  intro W base args ds gs before hval0 hW hcnd _
  have hval : ∀ (j : Nat) t v, Try.f5.params[j]? = some t → args[j]? = some v → Value.okWide Try.prog W .any base t v := hval0
  have hW' := hW
  obtain ⟨p, q, hA0, hV, rfl, hfz, hnd⟩ := hW
  have hA : DataW.TrodAll enc Try.prog W 0 (fun _ => true) true Try.f5.params.toList args.toList ds p := hA0
  rw [Try.params5] at hA hval
  obtain ⟨v0, vs0, d0, ds0, p0, q0, hargs, rfl, rfl, h0, r0⟩ := trodAll_cons hA
  obtain ⟨v1, vs1, d1, ds1, p1, q1, rfl, rfl, rfl, h1, r1⟩ := trodAll_cons r0
  obtain ⟨v2, vs2, d2, ds2, p2, q2, rfl, rfl, rfl, h2, r2⟩ := trodAll_cons r1
  obtain ⟨rfl, rfl, rfl⟩ := trodAll_nil r2
  obtain rfl : args = #[v0, v1, v2] := by cases args; simp_all
  obtain ⟨rfl, rfl⟩ := trodVars_none hV
  obtain ⟨a0, rfl, rfl, rfl, w0⟩ := open_int Try.underlying2 (hval 0 2 v0 rfl rfl) h0
  obtain ⟨a1, len1, cap1, rfl⟩ := okWide_slice Try.underlying26 (hval 1 26 v1 rfl rfl)
  have k1 := h1
  have lt1 : ∀ x ∈ p1, x.block < W.heap.size := by obtain ⟨m, hm⟩ := k1; exact DataW.trod_lt m _ _ _ hm
  obtain ⟨hn1, g1, hp1⟩ := open_ps h1
  obtain ⟨a2, len2, cap2, rfl⟩ := okWide_slice Try.underlying26 (hval 2 26 v2 rfl rfl)
  have k2 := h2
  have lt2 : ∀ x ∈ p2, x.block < W.heap.size := by obtain ⟨m, hm⟩ := k2; exact DataW.trod_lt m _ _ _ hm
  obtain ⟨hn2, g2, hp2⟩ := open_ps h2
  clear hA0 hval0
  refine (walk a0 a1 a2 len1 cap1 len2 cap2 W hn1 hn2 g1 g2 hp1 hp2).mono fun e W' ⟨he, bel⟩ => ?_
  subst he
  exact ⟨_, rfl, _, _, _, [], _, [], hW', trodAll_mk1 (shut_bool Try.underlying4 _), (trodAll_cons_mk (shut_int Try.underlying2 w0) (trodAll_cons_mk (Below.trod laidOut (by kernel_rfl) (of_decide_eq_true (by kernel_rfl)) k1 bel lt1) (trodAll_cons_mk (Below.trod laidOut (by kernel_rfl) (of_decide_eq_true (by kernel_rfl)) k2 bel lt2) trodAll_mk0))), rfl, bel.frame _, fun h => by cases h⟩

theorem over : Rows.fnNewLedgerAdditiveRow.holds Try.pinned (OpenSpec.ofChange Rows.fnNewLedgerAdditiveSpec) :=
  OpenClaim.holds_of_wide 5 Try.f5 rfl rfl rfl rfl rfl rfl rfl ⟨rfl, rfl, rfl, rfl, rfl⟩ rfl rfl rfl rfl rfl (by kernel_rfl) Try.func5 (by kernel_rfl)
    (of_decide_eq_true (by kernel_rfl)) (by unfold Func.isWrapper; first | (rw [if_pos (by decide +kernel)]; kernel_rfl) | (rw [if_neg (by decide +kernel)]; exact ⟨rfl, rfl⟩))
    (fun os started H enc _ => lifted os started H enc)

end Go.Proofs.Qxb6601551a.additive
namespace Go.Proofs.Qxb6601551a
/-- THE STATEMENT -/
theorem fnNewLedgerAdditive_proved : Rows.FnNewLedgerAdditiveSaid := additive.over
end Go.Proofs.Qxb6601551a
