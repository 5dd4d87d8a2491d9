import Derived.Test.Qxb6602238aDoorTop
namespace Go.Proofs.Qxb6602238aDoor
open Go.RowKit
variable {bs : Nat → Int}

theorem intg_model (bs : Nat → Int) (n i : Nat) (v : Int) (hi : i ≤ n) (hr : ∀ j, j < n → 0 ≤ bs j ∧ bs j < 256) : intgF bs n i v = modelF bs n i v := by
  unfold intgF modelF
  rw [after_same bs n _ v hr (numF_le _ (sk_le isSp bs n i hi))]

set_option maxHeartbeats 400000 in
theorem law_big (w : World) (ao : Option Addr) (n cap : Nat) (i v : Int) (hn : n ≤ maxLen) (h : 1048576 < n) :
    Calls Tryd.prog 3 #[.slice ao n cap, .int .i64 i, .int .i64 v] w fun e w' => e = .returned (.bool true) ∧ Below w.heap.size w w' := by
  unfold maxLen at hn
  go_enter Tryd.func3, Tryd.ntmps3
  go_wp2
  go_ret
  exact ⟨rfl, Below.refl _ _⟩

set_option maxHeartbeats 400000 in
theorem law_out (w : World) (ao : Option Addr) (n cap : Nat) (i v : Int) (hn : n ≤ 1048576) (h : i < 0 ∨ (n : Int) < i) :
    Calls Tryd.prog 3 #[.slice ao n cap, .int .i64 i, .int .i64 v] w fun e w' => e = .returned (.bool true) ∧ Below w.heap.size w w' := by
  by_cases h0 : i < 0
  · go_enter Tryd.func3, Tryd.ntmps3
    go_wp2
    go_ret
    exact ⟨rfl, Below.refl _ _⟩
  · have h1 : (n : Int) < i := by omega
    clear h
    go_enter Tryd.func3, Tryd.ntmps3
    go_wp2
    go_ret
    exact ⟨rfl, Below.refl _ _⟩

/-- b1Clone, nil or not -/
theorem clone_any (w : World) (ao : Option Addr) (n cap : Nat) (hn : n ≤ 2097152) (hnil : (ao = none ∧ n = 0 ∧ cap = 0) ∨ ∃ a, ao = some a)
    (hp : ∀ j, j < n → ∃ b off, ao = some ⟨b, off, none⟩ ∧ b < w.heap.size ∧ w.cell? ⟨b, off + j, none⟩ = some (.int .u8 (bs j))) :
    Calls Tryd.prog 5 #[.slice ao n cap] w fun e w' => ∃ ao' cap', e = .returned (.slice ao' n cap') ∧ n ≤ cap' ∧ BI w' ao' n bs ∧ (∀ b, ao' = some ⟨b, 0, none⟩ → b < w'.heap.size) ∧ Below w.heap.size w w' := by
  rcases hnil with ⟨rfl, rfl, rfl⟩ | ⟨a, rfl⟩
  · refine (clone_nil w).mono ?_
    rintro e w' ⟨rfl, rfl⟩
    exact ⟨none, 0, rfl, Nat.le_refl _, fun j hj => absurd hj (Nat.not_lt_zero _), (fun b hb => by cases hb), Below.refl _ _⟩
  · refine (clone_some (bs := bs) w a n cap hn (fun j hj => by obtain ⟨b, off, ha, h1, h2⟩ := hp j hj; exact ⟨b, off, Option.some.inj ha, h1, h2⟩)).mono ?_
    rintro e w' ⟨rfl, ho, hb⟩
    exact ⟨_, n, rfl, Nat.le_refl _, fun j hj => ⟨_, rfl, ho.lt, ho.cell hj⟩, (fun b hb' => by simp at hb'; rw [← hb']; exact ho.lt), hb⟩

set_option maxHeartbeats 1000000 in
theorem law_in (w : World) (ao : Option Addr) (n cap i : Nat) (v : Int) (e0 e1 : Value) (hn : n ≤ 1048576) (hi : i ≤ n) (hnil : (ao = none ∧ n = 0 ∧ cap = 0) ∨ ∃ a, ao = some a)
    (hp : ∀ j, j < n → ∃ b off, ao = some ⟨b, off, none⟩ ∧ b < w.heap.size ∧ w.cell? ⟨b, off + j, none⟩ = some (.int .u8 (bs j))) (hr : ∀ j, j < n → 0 ≤ bs j ∧ bs j < 256)
    (hv0 : w.cell? ⟨0, 0, none⟩ = some e0) (he0 : e0 = .nilIface ∨ ∃ te pe, e0 = .iface te pe) (hv1 : w.cell? ⟨1, 0, none⟩ = some e1) (he1 : e1 = .nilIface ∨ ∃ te pe, e1 = .iface te pe) (h2 : 2 ≤ w.heap.size) :
    Calls Tryd.prog 3 #[.slice ao n cap, .int .i64 i, .int .i64 v] w fun e w' => e = .returned (.bool true) ∧ Below w.heap.size w w' := by
  have hii : ¬ (n : Int) < (i : Int) := by omega
  have HC : Hid (Calls Tryd.prog 5 #[.slice ao n cap] w fun e w' => ∃ ao' cap', e = .returned (.slice ao' n cap') ∧ n ≤ cap' ∧ BI w' ao' n bs ∧ (∀ b, ao' = some ⟨b, 0, none⟩ → b < w'.heap.size) ∧ Below w.heap.size w w') := clone_any w ao n cap (by omega) hnil hp
  have HM : Hid (intgF bs n i v = modelF bs n i v) := intg_model bs n i v hi hr
  have HV0 : Hid (w.cell? ⟨0, 0, none⟩ = some e0) := hv0
  have HV1 : Hid (w.cell? ⟨1, 0, none⟩ = some e1) := hv1
  have HE0 : Hid (e0 = .nilIface ∨ ∃ te pe, e0 = .iface te pe) := he0
  have HE1 : Hid (e1 = .nilIface ∨ ∃ te pe, e1 = .iface te pe) := he1
  clear hnil hp hv0 hv1 he0 he1
  go_enter Tryd.func3, Tryd.ntmps3
  go_wp2_with (first | (go_at_call 4; go_in) | fail)
  refine HC.out.mono ?_
  rintro e w1 ⟨a1, c1, rfl, hc1, hb1, hl1, bel1⟩
  clear HC
  have hz1 := bel1.size
  have HZ : Hid (Calls Tryd.prog 6 #[.slice a1 n c1, .int .i64 i, .int .i64 v] w1 fun e w' => e = .returned (.tuple #[.bool (intgF bs n i v).1, .int .i64 (intgF bs n i v).2.1, .int .i64 (intgF bs n i v).2.2]) ∧ Below w1.heap.size w1 w') :=
    zzint6 w1 v e0 e1 hb1 hi (by omega) hc1 hr (by omega) (by rw [bel1.cell (p := ⟨0, 0, none⟩) (by show 0 < _; omega)]; exact HV0.out) HE0.out (by rw [bel1.cell (p := ⟨1, 0, none⟩) (by show 1 < _; omega)]; exact HV1.out) HE1.out (fun _ => hl1)
  clear HV0 HV1 HE0 HE1
  go_wp2_with fail
  refine HZ.out.mono ?_
  rintro e w2 ⟨rfl, bel2⟩
  clear HZ
  have hb2 := hb1.below bel2
  have HZ : Hid (Calls Tryd.prog 7 #[.slice a1 n c1, .int .i64 i, .int .i64 v] w2 fun e w' => e = .returned (.tuple #[.bool (intgF bs n i v).1, .int .i64 (intgF bs n i v).2.1, .int .i64 (intgF bs n i v).2.2]) ∧ ∃ q, w' = w2.drewN q) := hid (by
    rw [HM.out]
    exact model7 w2 v hb2 hi (by omega) hc1)
  have bel3 := bel1.trans (bel2.mono hz1)
  clear hb1 hb2 bel1 bel2 hl1 HM hr
  revert HZ
  generalize intgF bs n i v = R
  obtain ⟨r1, r2, r3⟩ := R
  intro HZ
  go_wp2_with fail
  refine HZ.out.mono ?_
  rintro e w3 ⟨rfl, q, rfl⟩
  clear HZ
  go_wp2_with fail
  go_ret
  exact ⟨by simp, below_drewN bel3 _⟩

end Go.Proofs.Qxb6602238aDoor
