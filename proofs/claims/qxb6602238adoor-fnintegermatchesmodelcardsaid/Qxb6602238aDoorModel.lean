import Derived.Test.Qxb6602238aDoorZZ
import Derived.Test.Qxb6602238aDoorPlain2
import Derived.Deep.Light
namespace Go.Proofs.Qxb6602238aDoor
open Go.RowKit
variable {w w1 w2 : World} {ao : Option Addr} {n cap : Nat} {bs : Nat → Int} {i : Nat}

theorem ret_int {k : IntKind} {a b : Int} (h : a = b) : Ending.returned (.int k a) = .returned (.int k b) := by rw [h]

set_option maxHeartbeats 1000000 in
theorem next17_0 (b : Int) (w : World) : Calls Tryd.prog 17 #[.int .i64 0, .int .u8 b] w fun e w' => e = .returned (.int .i64 (nxt 0 b)) ∧ w' = w := by
  go_enter Tryd.func17, Tryd.ntmps17
  go_wp2_with (go_at_call 19; refine (isDigit19 _ _).mono ?_; rintro e w' ⟨rfl, rfl⟩)
  all_goals (go_ret; refine ⟨ret_int ?_, rfl⟩; go_light; simp_all [nxt])

set_option maxHeartbeats 1000000 in
theorem next17_1 (b : Int) (w : World) : Calls Tryd.prog 17 #[.int .i64 1, .int .u8 b] w fun e w' => e = .returned (.int .i64 (nxt 1 b)) ∧ w' = w := by
  go_enter Tryd.func17, Tryd.ntmps17
  go_wp2_with (go_at_call 19; refine (isDigit19 _ _).mono ?_; rintro e w' ⟨rfl, rfl⟩)
  all_goals (go_ret; refine ⟨ret_int ?_, rfl⟩; go_light; simp_all [nxt])

set_option maxHeartbeats 1000000 in
theorem next17_2 (b : Int) (w : World) : Calls Tryd.prog 17 #[.int .i64 2, .int .u8 b] w fun e w' => e = .returned (.int .i64 (nxt 2 b)) ∧ w' = w := by
  go_enter Tryd.func17, Tryd.ntmps17
  go_wp2_with (go_at_call 19; refine (isDigit19 _ _).mono ?_; rintro e w' ⟨rfl, rfl⟩)
  all_goals (go_ret; refine ⟨ret_int ?_, rfl⟩; go_light; simp_all [nxt])

set_option maxHeartbeats 1000000 in
theorem next17_3 (b : Int) (w : World) : Calls Tryd.prog 17 #[.int .i64 3, .int .u8 b] w fun e w' => e = .returned (.int .i64 (nxt 3 b)) ∧ w' = w := by
  go_enter Tryd.func17, Tryd.ntmps17
  go_wp2_with (go_at_call 19; refine (isDigit19 _ _).mono ?_; rintro e w' ⟨rfl, rfl⟩)
  all_goals (go_ret; refine ⟨ret_int ?_, rfl⟩; go_light; simp_all [nxt])

set_option maxHeartbeats 1000000 in
theorem next17_4 (b : Int) (w : World) : Calls Tryd.prog 17 #[.int .i64 4, .int .u8 b] w fun e w' => e = .returned (.int .i64 (nxt 4 b)) ∧ w' = w := by
  go_enter Tryd.func17, Tryd.ntmps17
  go_wp2_with (go_at_call 19; refine (isDigit19 _ _).mono ?_; rintro e w' ⟨rfl, rfl⟩)
  all_goals (go_ret; refine ⟨ret_int ?_, rfl⟩; go_light; simp_all [nxt])

set_option maxHeartbeats 1000000 in
theorem next17_5 (b : Int) (w : World) : Calls Tryd.prog 17 #[.int .i64 5, .int .u8 b] w fun e w' => e = .returned (.int .i64 (nxt 5 b)) ∧ w' = w := by
  go_enter Tryd.func17, Tryd.ntmps17
  go_wp2_with (go_at_call 19; refine (isDigit19 _ _).mono ?_; rintro e w' ⟨rfl, rfl⟩)
  all_goals (go_ret; refine ⟨ret_int ?_, rfl⟩; go_light; simp_all [nxt])

set_option maxHeartbeats 1000000 in
theorem next17_6 (b : Int) (w : World) : Calls Tryd.prog 17 #[.int .i64 6, .int .u8 b] w fun e w' => e = .returned (.int .i64 (nxt 6 b)) ∧ w' = w := by
  go_enter Tryd.func17, Tryd.ntmps17
  go_wp2_with (go_at_call 19; refine (isDigit19 _ _).mono ?_; rintro e w' ⟨rfl, rfl⟩)
  all_goals (go_ret; refine ⟨ret_int ?_, rfl⟩; go_light; simp_all [nxt])

set_option maxHeartbeats 1000000 in
theorem next17_7 (b : Int) (w : World) : Calls Tryd.prog 17 #[.int .i64 7, .int .u8 b] w fun e w' => e = .returned (.int .i64 (nxt 7 b)) ∧ w' = w := by
  go_enter Tryd.func17, Tryd.ntmps17
  go_wp2_with (go_at_call 19; refine (isDigit19 _ _).mono ?_; rintro e w' ⟨rfl, rfl⟩)
  all_goals (go_ret; refine ⟨ret_int ?_, rfl⟩; go_light; simp_all [nxt])

set_option maxHeartbeats 1000000 in
theorem next17_8 (b : Int) (w : World) : Calls Tryd.prog 17 #[.int .i64 8, .int .u8 b] w fun e w' => e = .returned (.int .i64 (nxt 8 b)) ∧ w' = w := by
  go_enter Tryd.func17, Tryd.ntmps17
  go_wp2_with (go_at_call 19; refine (isDigit19 _ _).mono ?_; rintro e w' ⟨rfl, rfl⟩)
  all_goals (go_ret; refine ⟨ret_int ?_, rfl⟩; go_light; simp_all [nxt])

theorem next17 (st b : Int) (w : World) (h : 0 ≤ st ∧ st ≤ 8) : Calls Tryd.prog 17 #[.int .i64 st, .int .u8 b] w fun e w' => e = .returned (.int .i64 (nxt st b)) ∧ w' = w := by
  have : st = 0 ∨ st = 1 ∨ st = 2 ∨ st = 3 ∨ st = 4 ∨ st = 5 ∨ st = 6 ∨ st = 7 ∨ st = 8 := by omega
  rcases this with rfl | rfl | rfl | rfl | rfl | rfl | rfl | rfl | rfl
  · exact next17_0 b w
  · exact next17_1 b w
  · exact next17_2 b w
  · exact next17_3 b w
  · exact next17_4 b w
  · exact next17_5 b w
  · exact next17_6 b w
  · exact next17_7 b w
  · exact next17_8 b w

set_option maxHeartbeats 400000 in
theorem accept18 (st : Int) (w : World) : Calls Tryd.prog 18 #[.int .i64 st] w fun e w' => e = .returned (.bool (acc st)) ∧ w' = w := by
  go_enter Tryd.func18, Tryd.ntmps18
  go_wp2
  all_goals (go_ret; refine ⟨?_, rfl⟩; simp [acc]; try omega)

end Go.Proofs.Qxb6602238aDoor
