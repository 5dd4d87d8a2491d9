import Derived.Test.Qxb6602238aDoorInteger
namespace Go.Proofs.Qxb6602238aDoor
open Go.RowKit
variable {w w1 w2 : World} {ao : Option Addr} {n cap : Nat} {bs : Nat → Int} {i : Nat}

/-- n bytes that can be read at 'ao' -/
def BI (w : World) (ao : Option Addr) (n : Nat) (bs : Nat → Int) : Prop :=
  ∀ j, j < n → ∃ b, ao = some ⟨b, 0, none⟩ ∧ b < w.heap.size ∧ w.cell? ⟨b, j, none⟩ = some (.int .u8 (bs j))
theorem BI.below (h : BI w ao n bs) (hb : Below w.heap.size w w1) : BI w1 ao n bs := by
  intro j hj
  obtain ⟨b, ha, hlb, hc⟩ := h j hj
  have := hb.size
  exact ⟨b, ha, by omega, by rw [hb.cell (p := ⟨b, j, none⟩) hlb]; exact hc⟩

set_option maxHeartbeats 1000000 in
theorem zzint6 (w : World) (v : Int) (e0 e1 : Value) (h : BI w ao n bs) (hi : i ≤ n) (hn : n ≤ 2097152) (hcap : n ≤ cap) (hby : ∀ j, j < n → 0 ≤ bs j ∧ bs j < 256) (h2 : 2 ≤ w.heap.size)
    (hv0 : w.cell? ⟨0, 0, none⟩ = some e0) (he0 : e0 = .nilIface ∨ ∃ te pe, e0 = .iface te pe) (hv1 : w.cell? ⟨1, 0, none⟩ = some e1) (he1 : e1 = .nilIface ∨ ∃ te pe, e1 = .iface te pe)
    (hao : n = 0 → ∀ b, ao = some ⟨b, 0, none⟩ → b < w.heap.size) :
    Calls Tryd.prog 6 #[.slice ao n cap, .int .i64 i, .int .i64 v] w fun e w' => e = .returned (.tuple #[.bool (intgF bs n i v).1, .int .i64 (intgF bs n i v).2.1, .int .i64 (intgF bs n i v).2.2]) ∧ Below w.heap.size w w' := by
  obtain ⟨R, hR⟩ : ∃ R, R = intgF bs n i v := ⟨_, rfl⟩
  obtain ⟨W, hW⟩ : ∃ W, W = (w.alloc (.cells #[.int .i64 v] 3)).alloc (.cells #[.slice ao n cap, .int .i64 i, .slice none 0 0] 30) := ⟨_, rfl⟩
  have hbW : Below w.heap.size w W := by rw [hW]; exact ((Below.refl _ _).alloc (Nat.le_refl _) _).alloc (by simp) _
  have hzW : W.heap.size = w.heap.size + 2 := by rw [hW]; simp
  have hst : St W (w.heap.size + 1) ao n cap bs i := by
    refine ⟨?_, hi, fun j hj => ?_⟩
    · have := Own.new (w.alloc (.cells #[.int .i64 v] 3)) #[.slice ao n cap, .int .i64 i, .slice none 0 0] 30
      rw [World.size_alloc] at this
      rw [hW]
      exact this.congr fun k hk => by
        match k, hk with
        | 0, _ => rfl
        | 1, _ => rfl
        | 2, _ => rfl
    · obtain ⟨b, ha, hlb, hc⟩ := h j hj
      exact ⟨b, ha, by omega, by omega, by rw [hbW.cell (p := ⟨b, j, none⟩) hlb]; exact hc⟩
  have hvo : Own W w.heap.size 1 (fun _ => .int .i64 v) := by
    have := (Own.new w #[.int .i64 v] 3).alloc (.cells #[.slice ao n cap, .int .i64 i, .slice none 0 0] 30)
    rw [hW]
    exact this.congr fun k hk => by
      match k, hk with
      | 0, _ => rfl
  have hda : ∀ b, ao = some ⟨b, 0, none⟩ → b ≠ w.heap.size := fun b hb => by
    rcases Nat.eq_zero_or_pos n with h0 | h0
    · have := hao h0 b hb; omega
    · obtain ⟨b', ha, hlb, _⟩ := h 0 h0
      rw [hb] at ha
      simp at ha
      omega
  have hI := integer8 W w.heap.size w.heap.size v e0 e1 hst hn hcap hby hvo (by omega) hda h2 (by omega) (Nat.le_refl _)
    (by rw [hbW.cell (p := ⟨0, 0, none⟩) (by show 0 < _; omega)]; exact hv0) he0 (by rw [hbW.cell (p := ⟨1, 0, none⟩) (by show 1 < _; omega)]; exact hv1) he1
  rw [← hR] at hI ⊢
  rw [hW] at hI
  have HI : Hid (Calls Tryd.prog 8 #[.pointer (some ⟨w.heap.size + 1, 0, none⟩), .pointer (some ⟨w.heap.size, 0, none⟩)] ((w.alloc (.cells #[.int .i64 v] 3)).alloc (.cells #[.slice ao n cap, .int .i64 i, .slice none 0 0] 30)) fun e w' => e = .returned (.bool R.1) ∧
      St w' (w.heap.size + 1) ao n cap bs R.2.1 ∧ Own w' w.heap.size 1 (fun _ => .int .i64 R.2.2) ∧ Below w.heap.size ((w.alloc (.cells #[.int .i64 v] 3)).alloc (.cells #[.slice ao n cap, .int .i64 i, .slice none 0 0] 30)) w') := hI
  rw [hW] at hbW
  obtain ⟨r1, r2, r3⟩ := R
  clear hI hst hvo hda hzW hW hR h hao
  go_enter Tryd.func6, Tryd.ntmps6
  go_wp2_with fail
  refine HI.out.mono ?_
  clear HI
  rintro e wx ⟨rfl, hs, hv, hb⟩
  have hb' := hbW.trans hb
  have c1 := hs.c1
  have c2 := hv.cell (i := 0) (by omega)
  clear hs hv hb hbW
  go_wp2_with fail
  go_quiet (fail)
  go_wp2
  go_ret3
  exact ⟨rfl, below_drewN hb' _⟩

theorem eqlnil22 (w : World) (a : Option Addr) (n c n' c' : Nat) : (binOp .eql 22 (.slice a n c) (.slice none n' c')).run Tryd.prog w = .ok (.bool a.isNone) w :=
  Lib.run_eql_slice_nil w _ _ a n c n' c' Tryd.underlying22
theorem Tryd.info5 : (Tryd.prog.info? 5).map (fun i => (i.zero, i.size, i.bytes)) = some (some (.int .u8 0), 1, 1) := by kernel_rfl

theorem make_at (n : Nat) (hn : n ≤ 2097152) (w : World) :
    (Instr.makeSlice 22 (.int .i64 (n : Int)) (.int .i64 (n : Int))).run Tryd.prog w = .ok (.slice (some ⟨w.heap.size, 0, none⟩) n n) (w.alloc (.cells (madeCells #[.int .u8 0] n) 5)) := by
  obtain ⟨i, hi, hz, hs, hbb⟩ := info_parts Tryd.info5
  have hbi : (i.bytes : Int) * (n : Int) ≤ 281474976710656 := by rw [hbb]; omega
  have := run_make w 22 5 i (.int .u8 0) Tryd.underlying22 hi hz .i64 .i64 (n : Int) (n : Int) (by omega) (by omega) hbi (by omega)
  rw [hs] at this
  simpa [Value.cells] using this

set_option maxHeartbeats 400000 in
theorem clone_nil (w : World) : Calls Tryd.prog 5 #[.slice none 0 0] w fun e w' => e = .returned (.slice none 0 0) ∧ w' = w := by
  have q := eqlnil22
  go_enter Tryd.func5, Tryd.ntmps5
  go_wp2
  go_ret
  exact ⟨rfl, rfl⟩

set_option maxHeartbeats 400000 in
theorem clone_some (w : World) (a : Addr) (n cap : Nat) (hn : n ≤ 2097152) (hp : ∀ j, j < n → ∃ b off, a = ⟨b, off, none⟩ ∧ b < w.heap.size ∧ w.cell? ⟨b, off + j, none⟩ = some (.int .u8 (bs j))) :
    Calls Tryd.prog 5 #[.slice (some a) n cap] w fun e w' => e = .returned (.slice (some ⟨w.heap.size, 0, none⟩) n n) ∧ Own w' w.heap.size n (fun j => .int .u8 (bs j)) ∧ Below w.heap.size w w' := by
  have hmk := make_at n hn
  have q := eqlnil22
  go_enter Tryd.func5, Tryd.ntmps5
  go_wp2
  go_loopw [4] (fun i wr => ∃ k : Nat, k ≤ n ∧ i = .int .i64 k ∧ Own wr w.heap.size n (fun i => if i < k then .int .u8 (bs i) else .int .u8 0) ∧ Below w.heap.size w wr)
    (fun i _ => n - (intOf i).toNat)
  case atStart =>
    refine ⟨0, Nat.zero_le _, rfl, ?_, ?_⟩
    · exact (Own.made w #[.int .u8 0] n 5).congr fun i _ => by simp [Nat.mod_one]
    · exact (Below.refl _ _).alloc (Nat.le_refl _) _
  case round =>
    obtain ⟨k, hk, rfl, h0, hb⟩ := hrel
    by_cases hlt : k < n
    · have hki : (k : Int) < (n : Int) := by omega
      have d0 := h0.cell hlt
      have z0 := h0.free k
      simp only [if_neg (Nat.lt_irrefl k)] at d0
      obtain ⟨b, off, rfl, hlb, s0⟩ := hp k hlt
      clear hmk
      have r0 : wr.cell? ⟨b, off + k, none⟩ = some (.int .u8 (bs k)) := by rw [hb.cell (p := ⟨b, off + k, none⟩) hlb, s0]
      go_wp2
      go_roundw
      case rel =>
        refine ⟨k + 1, by omega, by go_num, (h0.set k _).congr fun i _ => ?_, hb.setCell (by simp) _⟩
        by_cases e : i = k
        · subst e; simp
        · by_cases e2 : i < k
          · simp [e, e2, Nat.lt_succ_of_lt e2]
          · simp [e, e2, show ¬ i < k + 1 by omega]
      case measure => simp [intOf]; omega
    · have hkn : k = n := by omega
      subst hkn
      go_wp2
      go_ret
      exact ⟨rfl, h0.congr fun i hi => by simp [hi], hb⟩

end Go.Proofs.Qxb6602238aDoor
