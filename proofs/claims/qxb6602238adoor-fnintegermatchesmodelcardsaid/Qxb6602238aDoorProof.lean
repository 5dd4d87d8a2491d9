import Derived.Test.Qxb6602238aDoorRows
import Derived.Test.Qxb6602238aDoorTie
import Derived.Test.Qxb6602238aDoorCards
import Derived.Test.Qxb6602238aDoorLaw
import Derived.WalkKit
import Derived.ProofKit
import Derived.OpenShut
import Derived.ShutString
import Derived.ChangeOld
import Derived.Below
import Derived.LaidMore
import Derived.Stop.Joined
import Derived.Stop.LaidErr
import Derived.SevenTiedAt
namespace Go.Proofs.Qxb6602238aDoor.integer
open Go.ChangeShapes Go.WideShapes Go.ChangeAt Go.RowKit
open Go.ChangeMaps (open_string shut_string)

theorem own : ownKnob Tryd.prog.godebug = none := by kernel_rfl
theorem laidOut : laidOutB Tryd.prog = true := by kernel_rfl
theorem gSyn : Tryd.prog.globalNamed "strconv.ErrSyntax" = some 0 := by kernel_rfl
theorem gRan : Tryd.prog.globalNamed "strconv.ErrRange" = some 1 := by kernel_rfl
theorem tSyn : (Tryd.prog.globals[0]?).map (·.type) = some 42 := by kernel_rfl
theorem tRan : (Tryd.prog.globals[1]?).map (·.type) = some 42 := by kernel_rfl

/-- the door's own heap meets the condition -/
theorem door_met (os : Os) (args : Array Value) : laidMetH Tryd.prog Rows.fnIntegerMatchesModelRow.laid ((World.doorLaid Tryd.prog 62 os).forCall (fun _ _ => 0) ⟨#[], args, []⟩).memory :=
  laidMetH_of_parts3 (fuel := 8) (laidMet_of_run' 8 (by kernel_rfl) (by kernel_rfl)) (by kernel_rfl) (by kernel_rfl)

theorem iface_cell {W : World} {n : String} {g : Nat} {cs : Array Value} {nm : String} {d : DataW Unit} {f : Nat} {p : List MemPlace} {sp : Nat → Bool}
    (hg : Tryd.prog.globalNamed n = some g) (hv : W.var? Tryd.prog n = some cs) (hd : DataW.trod (fun _ => ()) Tryd.prog W 0 sp false f 42 cs.toList = some (.iface nm d, p)) :
    ∃ u v, W.cell? ⟨g, 0, none⟩ = some (.iface u v) := by
  obtain ⟨_, u, v, hcs, _⟩ := iface_of_trod Tryd.underlying42 hd
  refine ⟨u, v, ?_⟩
  have := World.var?_cell hg hv 0
  rw [Array.eq_one_of_toList hcs] at this
  simpa using this

/-- what the condition gives the walk: the two sentinels' cells hold interface values -/
theorem of_laid {W : World} (h : laidMetH Tryd.prog Rows.fnIntegerMatchesModelRow.laid W) : (∃ u v, W.cell? ⟨0, 0, none⟩ = some (.iface u v)) ∧ ∃ u v, W.cell? ⟨1, 0, none⟩ = some (.iface u v) := by
  rw [MakeChecks.laidMetH_plain _ _ _ (by kernel_rfl)] at h
  have h3 : laidMet Tryd.prog [("strconv.ErrRange", Rows.laid_strconv_ErrRange), ("strconv.ErrSyntax", Rows.laid_strconv_ErrSyntax)] W := h.tail.tail.tail
  obtain ⟨ps, ⟨g0, t0, cs0, f0, p0, q0, hg0, ht0, hv0, hd0, ⟨g1, t1, cs1, f1, p1, q1, hg1, ht1, hv1, hd1, _, _⟩, _⟩, _, _⟩ := h3
  obtain rfl := Option.some.inj (gRan.symm.trans hg0)
  obtain rfl := Option.some.inj (gSyn.symm.trans hg1)
  obtain rfl := Option.some.inj (tRan.symm.trans ht0)
  obtain rfl := Option.some.inj (tSyn.symm.trans ht1)
  exact ⟨iface_cell hg1 hv1 hd1, iface_cell hg0 hv0 hd0⟩

theorem walk (ao : Option Addr) (n cap : Nat) (i v : Int) (w : World) (hn : n ≤ maxLen) (hnil : (ao = none ∧ n = 0 ∧ cap = 0) ∨ ∃ a, ao = some a)
    (hp : ∃ bs : Nat → Int, (∀ j, j < n → ∃ b off, ao = some ⟨b, off, none⟩ ∧ b < w.heap.size ∧ w.cell? ⟨b, off + j, none⟩ = some (.int .u8 (bs j))) ∧ ∀ j, j < n → 0 ≤ bs j ∧ bs j < 256)
    (h0 : ∃ u v, w.cell? ⟨0, 0, none⟩ = some (.iface u v)) (h1 : ∃ u v, w.cell? ⟨1, 0, none⟩ = some (.iface u v)) :
    Calls Tryd.prog 3 #[.slice ao n cap, .int .i64 i, .int .i64 v] w fun e w' => e = .returned (.bool true) ∧ Below w.heap.size w w' := by
  obtain ⟨bs, hp, hr⟩ := hp
  obtain ⟨u0, v0, h0⟩ := h0
  obtain ⟨u1, v1, h1⟩ := h1
  by_cases hb : 1048576 < n
  · exact law_big w ao n cap i v hn hb
  · by_cases ho : i < 0 ∨ (n : Int) < i
    · exact law_out w ao n cap i v (by omega) ho
    · obtain ⟨k, rfl⟩ := Int.eq_ofNat_of_zero_le (show 0 ≤ i by omega)
      have hsz : 1 < w.heap.size := by
        rcases Nat.lt_or_ge 1 w.heap.size with h | h
        · exact h
        · simp [World.cell?, Array.getElem?_eq_none h] at h1
      exact law_in w ao n cap k v _ _ (by omega) (by omega) hnil hp hr h0 (.inr ⟨_, _, rfl⟩) h1 (.inr ⟨_, _, rfl⟩) hsz

set_option maxRecDepth 100000 in
theorem lifted (os : Os) (started : os.Started) (H : Type) (enc : TypeId × Value → H) :
    ReturnsInHanded {} Tryd.checked os 3 .any (fun w args => (Rows.fnIntegerMatchesModelSpec.pre enc Tryd.prog Tryd.f3 [] false w args ∧ laidMetH Tryd.prog Rows.fnIntegerMatchesModelRow.laid w) ∧ sizedMet enc Tryd.prog Tryd.f3 (OpenSpec.ofChange Rows.fnIntegerMatchesModelSpec) false w args)
      (Rows.fnIntegerMatchesModelSpec.post enc Tryd.prog Tryd.f3 false true false false) := by
  refine returnsInHanded_of_change_and (C := Tryd.checked) (X := fun w _ => laidMetH Tryd.prog Rows.fnIntegerMatchesModelRow.laid w) (fun _ _ _ hh h => h.of_heap hh) own started (by kernel_rfl) Tryd.func3
    (ChangeSpec.witness_shaped (enc := enc) (C := Tryd.checked) (os := os) (X := fun w _ => laidMetH Tryd.prog Rows.fnIntegerMatchesModelRow.laid w) false (World.doorLaid Tryd.prog 62 os) #[.slice none 0 0, .int .i64 0, .int .i64 0] 8 rfl (World.shaped_of_RefB (by kernel_rfl) (by kernel_rfl)) (by kernel_rfl) (by kernel_rfl) (by kernel_rfl) (door_met os _)) ?_
  intro W base args ds gs before hval0 hW _ _ hL _
  have hval : ∀ (j : Nat) t v, Tryd.f3.params[j]? = some t → args[j]? = some v → Value.okWide Tryd.prog W .any base t v := hval0
  have hW' := hW
  obtain ⟨p, q, hA0, hV, rfl, hfz, hnd⟩ := hW
  have hA : DataW.TrodAll enc Tryd.prog W 0 (fun _ => true) true Tryd.f3.params.toList args.toList ds p := hA0
  rw [Tryd.params3] at hA hval
  obtain ⟨v0, vs0, d0, ds0, p0, q0, hargs, rfl, rfl, h0, r0⟩ := trodAll_cons hA
  obtain ⟨v1, vs1, d1, ds1, p1, q1, rfl, rfl, rfl, h1, r1⟩ := trodAll_cons r0
  obtain ⟨v2, vs2, d2, ds2, p2, q2, rfl, rfl, rfl, h2, r2⟩ := trodAll_cons r1
  obtain ⟨rfl, rfl, rfl⟩ := trodAll_nil r2
  obtain rfl : args = #[v0, v1, v2] := by cases args; simp_all
  obtain ⟨rfl, rfl⟩ := trodVars_none hV
  obtain ⟨a0, len0, cap0, rfl⟩ := okWide_slice Tryd.underlying22 (hval 0 22 v0 rfl rfl)
  have k0 := h0
  have lt0 : ∀ x ∈ p0, x.block < W.heap.size := by obtain ⟨m, hm⟩ := k0; exact DataW.trod_lt m _ _ _ hm
  have o0 : len0 ≤ maxLen ∧ ((a0 = none ∧ len0 = 0 ∧ cap0 = 0) ∨ ∃ a, a0 = some a) ∧ ∃ bs : Nat → Int, (∀ j, j < len0 → ∃ b off, a0 = some ⟨b, off, none⟩ ∧ b < W.heap.size ∧ W.cell? ⟨b, off + j, none⟩ = some (.int .u8 (bs j))) ∧ ∀ j, j < len0 → 0 ≤ bs j ∧ bs j < 256 := by
    obtain ⟨fuel, hf⟩ := h0
    rcases open_ints Tryd.underlying22 Tryd.underlying5 (by kernel_rfl) hf with ⟨hcs, _⟩ | ⟨x, l, c, zs, hcs, _, hl, hm, hz, _, hcell, hwz⟩
    · simp [Value.cells] at hcs
      obtain ⟨rfl, rfl, rfl⟩ := hcs
      exact ⟨by unfold maxLen; omega, .inl ⟨rfl, rfl, rfl⟩, fun _ => 0, fun j hj => absurd hj (Nat.not_lt_zero _), fun j hj => absurd hj (Nat.not_lt_zero _)⟩
    · simp [Value.cells] at hcs
      obtain ⟨rfl, rfl, rfl⟩ := hcs
      have hz' : zs.length = cap0 := by simpa using hz
      refine ⟨by omega, .inr ⟨_, rfl⟩, fun j => zs.getD j 0, fun j hj => ?_, fun j hj => ?_⟩
      · obtain ⟨b, off, spot⟩ := x
        have hc := hcell 0 (by omega)
        have hspot : spot = none := by simpa [Addr.add] using World.cell?_spot hc
        subst hspot
        have hc' := hcell j (by omega)
        rw [WideShapes.add_plain] at hc'
        refine ⟨b, off, rfl, ?_, hc'⟩
        rcases Nat.lt_or_ge b W.heap.size with h | h
        · exact h
        · simp [World.cell?, Array.getElem?_eq_none h] at hc'
      · have hmem : zs.getD j 0 ∈ zs := by
          rw [List.getD_eq_getElem?_getD, List.getElem?_eq_getElem (by omega)]
          exact List.getElem_mem _
        have hw := hwz _ hmem
        have hbd := bounds_u8 hw
        show 0 ≤ zs.getD j 0 ∧ zs.getD j 0 < 256
        omega
  obtain ⟨a1, rfl, rfl, rfl, w1⟩ := open_int Tryd.underlying3 (hval 1 3 v1 rfl rfl) h1
  obtain ⟨a2, rfl, rfl, rfl, w2⟩ := open_int Tryd.underlying3 (hval 2 3 v2 rfl rfl) h2
  obtain ⟨l0, l1⟩ := of_laid hL
  clear hA0 hval0
  refine (walk a0 len0 cap0 a1 a2 W o0.1 o0.2.1 o0.2.2 l0 l1).mono fun e W' ⟨he, bel⟩ => ?_
  subst he
  exact ⟨_, rfl, _, _, _, [], _, [], hW', trodAll_mk1 (shut_bool Tryd.underlying4 _), (trodAll_cons_mk (Below.trod laidOut (by kernel_rfl) (of_decide_eq_true (by kernel_rfl)) k0 bel lt0) (trodAll_cons_mk (shut_int Tryd.underlying3 w1) (trodAll_cons_mk (shut_int Tryd.underlying3 w2) trodAll_mk0))), rfl, bel.frame _, fun h => by cases h⟩

theorem over : Rows.FnIntegerMatchesModelSaid :=
  OpenClaim.holds_of_wide 3 Tryd.f3 rfl rfl rfl rfl rfl rfl rfl ⟨rfl, rfl, rfl, rfl, rfl⟩ rfl rfl rfl rfl rfl (by kernel_rfl) Tryd.func3 (by kernel_rfl)
    (of_decide_eq_true (by kernel_rfl)) (by unfold Func.isWrapper; first | (rw [if_pos (by decide +kernel)]; kernel_rfl) | (rw [if_neg (by decide +kernel)]; exact ⟨rfl, rfl⟩))
    (fun os started H enc _ => lifted os started H enc)

end Go.Proofs.Qxb6602238aDoor.integer
namespace Go.Proofs.Qxb6602238aDoor
open Go
/-- THE STATEMENT: the tied card -/
theorem fnIntegerMatchesModelCard_proved : Rows.FnIntegerMatchesModelCardSaid :=
  Claim7.holds_tied_plain_at .later [] [.data, .data, .data, .called, .called] true (true, "668691076cf3d9ca87f44927343c3202985c25c6a471c9fde868d79a3c2be436") true
    integer.over (fun _ h => by cases h) (by kernel_rfl) (fun _ h => by cases h) fnIntegerMatchesModel_row_tie rfl ⟨rfl, rfl⟩ (by kernel_rfl) rfl
    (fun f fn hf hfn => by
      obtain rfl : f = 3 := Option.some.inj ((show Tryd.prog.funcNamed Rows.fnIntegerMatchesModelRow.func = some 3 by kernel_rfl).symm.trans hf) |>.symm
      obtain rfl : fn = Tryd.f3 := (Option.some.inj (Tryd.func3.symm.trans hfn)).symm
      exact ⟨by kernel_rfl, fun j t ht => by
        rw [Tryd.params3] at ht
        have hm : t ∈ [22, 3, 3] := by simpa using Array.mem_of_getElem? ht
        have hall : ([22, 3, 3].all fun u => !Tryd.prog.wantsStandIn u) = true := by kernel_rfl
        exact (show Tryd.prog.wantsStandIn t = false by simpa using List.all_eq_true.1 hall t hm)⟩)
    (by kernel_rfl)
end Go.Proofs.Qxb6602238aDoor
