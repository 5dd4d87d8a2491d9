import Derived.Test.Qxb6601551aCall
namespace Go.Proofs.Qxb6601551a
open Go.RowKit

set_option maxHeartbeats 400000 in
theorem keeps_any (w : World) (x : Int) (zb wb rv rl n : Nat) (f : Nat → Int) (l : Nat → Bool) (hn : n ≤ 2097152)
    (hz : Own w zb (n * 2) (prs f l)) (hw : Own w wb n (fun _ => .int .i64 x)) (hv : Own w rv n (fun i => .int .u64 (f i))) (hl : Own w rl n (fun i => .bool (l i))) :
    Calls Try.prog 14 #[.int .i64 x, .slice (some ⟨zb, 0, none⟩) n n, .slice (some ⟨wb, 0, none⟩) n n, .slice (some ⟨rv, 0, none⟩) n n, .slice (some ⟨rl, 0, none⟩) n n] w
      fun e w' => e = .returned (.bool true) ∧ Below w.heap.size w w' := by
  go_enter Try.func14, Try.ntmps14
  go_wp2
  go_loopw [11] (fun i wr => ∃ k : Nat, k ≤ n ∧ i = .int .i64 k ∧ Below w.heap.size w wr) (fun i _ => n - (intOf i).toNat)
  case atStart => exact ⟨0, Nat.zero_le _, rfl, Below.refl _ _⟩
  case round =>
    obtain ⟨k, hk, rfl, hb⟩ := hrel
    by_cases hlt : k < n
    · have hki : (k : Int) < (n : Int) := by omega
      have c0 := (hz.below hb hz.lt).cell (i := k * 2) (by omega)
      have c1 := (hz.below hb hz.lt).cell (i := k * 2 + 1) (by omega)
      have c2 := (hw.below hb hw.lt).cell hlt
      have c3 := (hv.below hb hv.lt).cell hlt
      have c4 := (hl.below hb hl.lt).cell hlt
      rw [prs_val] at c0
      rw [prs_lost] at c1
      go_wp2
      go_quiet (fail)
      go_wp2
      go_roundw
      case rel => exact ⟨k + 1, by omega, by go_num, below_drewN hb _⟩
      case measure => simp [intOf]; omega
    · go_wp2
      go_ret
      exact ⟨rfl, hb⟩

theorem copy_any (w : World) (ao : Option Addr) (n cap : Nat) (f : Nat → Int) (l : Nat → Bool) (hn : n ≤ 2097152) (hnil : (ao = none ∧ n = 0 ∧ cap = 0) ∨ ∃ a, ao = some a) (hp : PS w ao n f l) :
    Calls Try.prog 12 #[.slice ao n cap] w fun e w' => ∃ ao' cap', e = .returned (.slice ao' n cap') ∧ PS w' ao' n f l ∧ Below w.heap.size w w' := by
  rcases hnil with ⟨rfl, rfl, rfl⟩ | ⟨a, rfl⟩
  · refine (copy_nil w).mono ?_
    rintro e w' ⟨rfl, rfl⟩
    exact ⟨none, 0, rfl, hp, Below.refl _ _⟩
  · refine (copy_some w a n cap f l hn hp).mono ?_
    rintro e w' ⟨rfl, ho, hb⟩
    exact ⟨_, _, rfl, PS.own ho, hb⟩

end Go.Proofs.Qxb6601551a
