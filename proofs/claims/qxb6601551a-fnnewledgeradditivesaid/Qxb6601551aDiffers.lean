import Derived.Test.Qxb6601551aProg
import Derived.Test.Qxb6601551aOwn
namespace Go.Proofs.Qxb6601551a
open Go.RowKit

set_option maxHeartbeats 400000 in
theorem differs_lost (w : World) (lb rb n k : Nat) (hk : k < n)
    (c1 : w.cell? ⟨lb, 1, none⟩ = some (.slice (some ⟨rb, 0, none⟩) n n))
    (r1 : w.cell? ⟨rb, k * 2 + 1, none⟩ = some (.bool true)) :
    Calls Try.prog 21 #[.pointer (some ⟨lb, 0, none⟩), .int .i64 k] w fun e w' => e = .returned (.bool false) ∧ ∃ nq, w' = w.drewN nq := by
  have hki : (k : Int) < (n : Int) := by omega
  go_enter Try.func21, Try.ntmps21
  go_wp2
  go_quiet (fail)
  go_wp2
  go_ret
  exact ⟨rfl, _, rfl⟩

set_option maxHeartbeats 400000 in
theorem differs_kept (w : World) (lb wb rb n k : Nat) (hk : k < n) (v x : Int)
    (c0 : w.cell? ⟨lb, 0, none⟩ = some (.slice (some ⟨wb, 0, none⟩) n n)) (c1 : w.cell? ⟨lb, 1, none⟩ = some (.slice (some ⟨rb, 0, none⟩) n n))
    (r0 : w.cell? ⟨rb, k * 2, none⟩ = some (.int .u64 v)) (r1 : w.cell? ⟨rb, k * 2 + 1, none⟩ = some (.bool false)) (x0 : w.cell? ⟨wb, k, none⟩ = some (.int .i64 x)) :
    Calls Try.prog 21 #[.pointer (some ⟨lb, 0, none⟩), .int .i64 k] w fun e w' => e = .returned (.bool (wrap64 v != x)) ∧ ∃ nq, w' = w.drewN nq := by
  have hki : (k : Int) < (n : Int) := by omega
  go_enter Try.func21, Try.ntmps21
  go_wp2
  go_quiet (fail)
  go_wp2
  go_ret
  exact ⟨rfl, _, rfl⟩

theorem differs_any (w : World) (lb wb rb n k : Nat) (hk : k < n) (v x : Int) (l : Bool)
    (c0 : w.cell? ⟨lb, 0, none⟩ = some (.slice (some ⟨wb, 0, none⟩) n n)) (c1 : w.cell? ⟨lb, 1, none⟩ = some (.slice (some ⟨rb, 0, none⟩) n n))
    (r0 : w.cell? ⟨rb, k * 2, none⟩ = some (.int .u64 v)) (r1 : w.cell? ⟨rb, k * 2 + 1, none⟩ = some (.bool l)) (x0 : w.cell? ⟨wb, k, none⟩ = some (.int .i64 x)) :
    Calls Try.prog 21 #[.pointer (some ⟨lb, 0, none⟩), .int .i64 k] w fun e w' => e = .returned (.bool (!l && wrap64 v != x)) ∧ ∃ nq, w' = w.drewN nq := by
  cases l with
  | true => exact (differs_lost w lb rb n k hk c1 r1).mono fun e w' h => by simpa using h
  | false => exact (differs_kept w lb wb rb n k hk v x c0 c1 r0 r1 x0).mono fun e w' h => by simpa using h

end Go.Proofs.Qxb6601551a
