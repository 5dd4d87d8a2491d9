import Derived.Test.Qxb6602505aDoorProg
import Derived.Test.Qxb6602505aDoorOwn
import Derived.Deep.Light
namespace Go.Proofs.Qxb6602505aDoor
open Go.RowKit
variable {w w1 : World} {ao : Option Addr} {n cap : Nat} {ss : Nat → ByteArray}

theorem hid {p : Prop} (h : p) : Hid p := h
/-- n strings that can be read at 'ao' -/
def SS (w : World) (ao : Option Addr) (n : Nat) (ss : Nat → ByteArray) : Prop :=
  ∀ j, j < n → ∃ b off, ao = some ⟨b, off, none⟩ ∧ b < w.heap.size ∧ w.cell? ⟨b, off + j, none⟩ = some (.string (ss j)) ∧ (ss j).size ≤ maxLen
theorem SS.below (h : SS w ao n ss) (hb : Below w.heap.size w w1) : SS w1 ao n ss := by
  intro j hj
  obtain ⟨b, off, ha, hlb, hc, hm⟩ := h j hj
  have := hb.size
  exact ⟨b, off, ha, by omega, by rw [hb.cell (p := ⟨b, off + j, none⟩) hlb]; exact hc, hm⟩

set_option maxHeartbeats 400000 in
theorem bytes6 (w : World) (h : SS w ao n ss) (hn : n ≤ 65536) :
    Calls Tryd.prog 6 #[.slice ao n cap] w fun e w' => ∃ r : Int, e = .returned (.int .i64 r) ∧ (0 ≤ r ∧ r ≤ 1048577) ∧ w' = w := by
  go_enter Tryd.func6, Tryd.ntmps6
  go_wp2
  go_loop [3, 4] (fun s i => ∃ (z : Int) (k : Nat), s = .int .i64 z ∧ i = .int .i64 k ∧ (0 ≤ z ∧ z ≤ 1048576) ∧ k ≤ n) (fun _ i => n - (intOf i).toNat)
  case atStart => exact ⟨0, 0, rfl, rfl, by omega, by omega⟩
  case round =>
    obtain ⟨z, k, rfl, rfl, ⟨hz0, hz⟩, hk⟩ := hrel
    by_cases hlt : k < n
    · obtain ⟨b, off, rfl, hlb, hd, hm⟩ := h k hlt
      have hki : (k : Int) < (n : Int) := by omega
      obtain ⟨S, hS⟩ : ∃ S, S = ss k := ⟨_, rfl⟩
      rw [← hS] at hd hm
      unfold maxLen at hm
      clear hS
      by_cases h1 : S.size ≤ 1048576
      · by_cases h2 : z + ((S.size : Int) + 8) ≤ 1048576
        · go_wp2
          go_round
          case rel => exact ⟨z + ((S.size : Int) + 8), k + 1, by go_num, by go_num, by omega, by omega⟩
          case measure => simp [intOf]; omega
        · go_wp2
          go_ret
          exact ⟨1048577, rfl, ⟨by omega, by omega⟩, rfl⟩
      · go_wp2
        go_ret
        exact ⟨1048577, rfl, ⟨by omega, by omega⟩, rfl⟩
    · go_wp2
      go_ret
      exact ⟨z, rfl, ⟨by omega, by omega⟩, rfl⟩

theorem eqlnil22 (w : World) (a : Option Addr) (n c n' c' : Nat) : (binOp .eql 22 (.slice a n c) (.slice none n' c')).run Tryd.prog w = .ok (.bool a.isNone) w :=
  Lib.run_eql_slice_nil w _ _ a n c n' c' Tryd.underlying22
theorem Tryd.info9 : (Tryd.prog.info? 9).map (fun i => (i.zero, i.size, i.bytes)) = some (some (.string ⟨#[]⟩), 1, 16) := by kernel_rfl

theorem make_at (n : Nat) (hn : n ≤ 2097152) (w : World) :
    (Instr.makeSlice 22 (.int .i64 (n : Int)) (.int .i64 (n : Int))).run Tryd.prog w = .ok (.slice (some ⟨w.heap.size, 0, none⟩) n n) (w.alloc (.cells (madeCells #[.string ⟨#[]⟩] n) 9)) := by
  obtain ⟨i, hi, hz, hs, hbb⟩ := info_parts Tryd.info9
  have hbi : (i.bytes : Int) * (n : Int) ≤ 281474976710656 := by rw [hbb]; omega
  have := run_make w 22 9 i (.string ⟨#[]⟩) Tryd.underlying22 hi hz .i64 .i64 (n : Int) (n : Int) (by omega) (by omega) hbi (by omega)
  rw [hs] at this
  simpa [Value.cells] using this

set_option maxHeartbeats 400000 in
theorem copy_nil (w : World) : Calls Tryd.prog 7 #[.slice none 0 0] w fun e w' => e = .returned (.slice none 0 0) ∧ w' = w := by
  have q := eqlnil22
  go_enter Tryd.func7, Tryd.ntmps7
  go_wp2
  go_ret
  exact ⟨rfl, rfl⟩

set_option maxHeartbeats 400000 in
theorem copy_some (w : World) (a : Addr) (n cap : Nat) (hn : n ≤ 2097152) (hp : SS w (some a) n ss) :
    Calls Tryd.prog 7 #[.slice (some a) n cap] w fun e w' => e = .returned (.slice (some ⟨w.heap.size, 0, none⟩) n n) ∧ Own w' w.heap.size n (fun j => .string (ss j)) ∧ Below w.heap.size w w' := by
  have hmk := make_at n hn
  have q := eqlnil22
  go_enter Tryd.func7, Tryd.ntmps7
  go_wp2
  go_loopw [4] (fun i wr => ∃ k : Nat, k ≤ n ∧ i = .int .i64 k ∧ Own wr w.heap.size n (fun i => if i < k then .string (ss i) else .string ⟨#[]⟩) ∧ Below w.heap.size w wr)
    (fun i _ => n - (intOf i).toNat)
  case atStart =>
    refine ⟨0, Nat.zero_le _, rfl, ?_, ?_⟩
    · exact (Own.made w #[.string ⟨#[]⟩] n 9).congr fun i _ => by simp [Nat.mod_one]
    · exact (Below.refl _ _).alloc (Nat.le_refl _) _
  case round =>
    obtain ⟨k, hk, rfl, h0, hb⟩ := hrel
    by_cases hlt : k < n
    · have hki : (k : Int) < (n : Int) := by omega
      have d0 := h0.cell hlt
      have z0 := h0.free k
      simp only [if_neg (Nat.lt_irrefl k)] at d0
      obtain ⟨b, off, ha, hlb, s0, _⟩ := hp k hlt
      obtain rfl : a = ⟨b, off, none⟩ := Option.some.inj ha
      clear hmk ha
      have r0 : wr.cell? ⟨b, off + k, none⟩ = some (.string (ss k)) := by rw [hb.cell (p := ⟨b, off + k, none⟩) hlb, s0]
      go_wp2
      go_roundw
      case rel =>
        refine ⟨k + 1, by omega, by go_num, (h0.set k _).congr fun i _ => ?_, hb.setCell (by simp) _⟩
        by_cases e : i = k
        · subst e; simp
        · by_cases e2 : i < k
          · simp [e, e2, Nat.lt_succ_of_lt e2]
          · simp [e, e2, show ¬ i < k + 1 by omega]
      case measure => simp [intOf]; omega
    · have hkn : k = n := by omega
      subst hkn
      go_wp2
      go_ret
      exact ⟨rfl, h0.congr fun i hi => by simp [hi], hb⟩

theorem copy7 (w : World) (ao : Option Addr) (n cap : Nat) (hn : n ≤ 2097152) (hnil : (ao = none ∧ n = 0 ∧ cap = 0) ∨ ∃ a, ao = some a) (hp : SS w ao n ss) :
    Calls Tryd.prog 7 #[.slice ao n cap] w fun e w' => ∃ ao' cap', e = .returned (.slice ao' n cap') ∧ SS w' ao' n ss ∧ Below w.heap.size w w' := by
  rcases hnil with ⟨rfl, rfl, rfl⟩ | ⟨a, rfl⟩
  · refine (copy_nil w).mono ?_
    rintro e w' ⟨rfl, rfl⟩
    exact ⟨none, 0, rfl, fun j hj => absurd hj (Nat.not_lt_zero _), Below.refl _ _⟩
  · refine (copy_some w a n cap hn hp).mono ?_
    rintro e w' ⟨rfl, ho, hb⟩
    refine ⟨_, n, rfl, fun j hj => ?_, hb⟩
    obtain ⟨_, _, _, _, _, hm⟩ := hp j hj
    exact ⟨_, 0, rfl, ho.lt, by rw [Nat.zero_add]; exact ho.cell hj, hm⟩

end Go.Proofs.Qxb6602505aDoor
