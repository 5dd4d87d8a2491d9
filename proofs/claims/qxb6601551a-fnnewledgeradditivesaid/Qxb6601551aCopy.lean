import Derived.Test.Qxb6601551aZZ
namespace Go.Proofs.Qxb6601551a
open Go.RowKit

/-- A slice of n (value, lost) readings that can be read in w. -/
def PS (w : World) (ao : Option Addr) (n : Nat) (f : Nat → Int) (l : Nat → Bool) : Prop :=
  ∀ i, i < n → ∃ b off, ao = some ⟨b, off, none⟩ ∧ b < w.heap.size ∧ w.cell? ⟨b, off + i * 2, none⟩ = some (.int .u64 (f i)) ∧ w.cell? ⟨b, off + i * 2 + 1, none⟩ = some (.bool (l i))

theorem PS.below {w w' : World} {ao : Option Addr} {n : Nat} {f : Nat → Int} {l : Nat → Bool} (h : PS w ao n f l) (hb : Below w.heap.size w w') : PS w' ao n f l := by
  intro i hi
  obtain ⟨b, off, ha, hlt, h0, h1⟩ := h i hi
  have := hb.size
  exact ⟨b, off, ha, by omega, by rw [hb.cell (p := ⟨b, off + i * 2, none⟩) hlt, h0], by rw [hb.cell (p := ⟨b, off + i * 2 + 1, none⟩) hlt, h1]⟩

theorem PS.own {w : World} {g n : Nat} {f : Nat → Int} {l : Nat → Bool} (h : Own w g (n * 2) (prs f l)) : PS w (some ⟨g, 0, none⟩) n f l := by
  intro i hi
  refine ⟨g, 0, rfl, h.lt, ?_, ?_⟩
  · rw [Nat.zero_add, h.cell (by omega), prs_val]
  · rw [Nat.zero_add, h.cell (by omega), prs_lost]

theorem eqlnil26 (w : World) (a : Option Addr) (n c n' c' : Nat) : (binOp .eql 26 (.slice a n c) (.slice none n' c')).run Try.prog w = .ok (.bool a.isNone) w :=
  Lib.run_eql_slice_nil w _ _ a n c n' c' Try.underlying26

set_option maxHeartbeats 400000 in
theorem copy_nil (w : World) : Calls Try.prog 12 #[.slice none 0 0] w fun e w' => e = .returned (.slice none 0 0) ∧ w' = w := by
  have q26 := eqlnil26
  go_enter Try.func12, Try.ntmps12
  go_wp2
  go_ret
  exact ⟨rfl, rfl⟩

set_option maxHeartbeats 400000 in
theorem copy_some (w : World) (a : Addr) (n cap : Nat) (f : Nat → Int) (l : Nat → Bool) (hn : n ≤ 2097152) (hp : PS w (some a) n f l) :
    Calls Try.prog 12 #[.slice (some a) n cap] w fun e w' => e = .returned (.slice (some ⟨w.heap.size, 0, none⟩) n n) ∧ Own w' w.heap.size (n * 2) (prs f l) ∧ Below w.heap.size w w' := by
  have hmk := make_at (Try.underlying26) Try.info31 n hn (by decide)
  have q26 := eqlnil26
  go_enter Try.func12, Try.ntmps12
  go_wp2
  go_loopw [4] (fun i wr => ∃ k : Nat, k ≤ n ∧ i = .int .i64 k ∧ Own wr w.heap.size (n * 2) (fun i => if i < k * 2 then prs f l i else prs (fun _ => 0) (fun _ => false) i) ∧ Below w.heap.size w wr)
    (fun i _ => n - (intOf i).toNat)
  case atStart =>
    refine ⟨0, Nat.zero_le _, rfl, ?_, ?_⟩
    · exact (Own.made w _ (n * 2) 31).congr fun i _ => by
        rcases Nat.mod_two_eq_zero_or_one i with h | h <;> simp [prs, h]
    · exact (Below.refl _ _).alloc (Nat.le_refl _) _
  case round =>
    obtain ⟨k, hk, rfl, h0, hb⟩ := hrel
    by_cases hlt : k < n
    · have hki : (k : Int) < (n : Int) := by omega
      have d0 := h0.cell (i := k * 2) (by omega)
      have d1 := h0.cell (i := k * 2 + 1) (by omega)
      have z0 := h0.free (k * 2)
      have z1 := h0.free (k * 2 + 1)
      rw [if_neg (by omega), prs_val] at d0
      rw [if_neg (by omega), prs_lost] at d1
      obtain ⟨b, off, ha, hlb, s0, s1⟩ := hp k hlt
      obtain rfl : a = ⟨b, off, none⟩ := Option.some.inj ha
      clear ha hmk
      have r0 : wr.cell? ⟨b, off + k * 2, none⟩ = some (.int .u64 (f k)) := by rw [hb.cell (p := ⟨b, off + k * 2, none⟩) hlb, s0]
      have r1 : wr.cell? ⟨b, off + k * 2 + 1, none⟩ = some (.bool (l k)) := by rw [hb.cell (p := ⟨b, off + k * 2 + 1, none⟩) hlb, s1]
      go_wp2
      go_roundw
      case rel => exact ⟨k + 1, by omega, by go_num, ((h0.set (k * 2) _).set (k * 2 + 1) _).congr fun i _ => prs_step f l k i, ((hb.setCell (by simp) _).setCell (by simp) _)⟩
      case measure => simp [intOf]; omega
    · have hkn : k = n := by omega
      subst hkn
      go_wp2
      go_ret
      exact ⟨rfl, h0.congr fun i hi => by rw [if_pos hi], hb⟩

end Go.Proofs.Qxb6601551a
