import Derived.Test.Qxb6601931aPieces
namespace Go.Proofs.Qxb6601931a
open Go.RowKit

set_option maxHeartbeats 400000 in
theorem inj_big (a b : ByteArray) (w : World) (ha : a.size ≤ maxLen) (hb : b.size ≤ maxLen) (h : 1048576 < a.size + b.size) :
    Calls Try.prog 4 #[.string a, .string b] w fun e w' => e = .returned (.bool true) ∧ w' = w := by
  unfold maxLen at ha hb
  by_cases h1 : a.size ≤ 1048576
  · by_cases h2 : b.size ≤ 1048576
    · go_enter Try.func4, Try.ntmps4
      go_wp2
      go_ret
      exact ⟨rfl, rfl⟩
    · go_enter Try.func4, Try.ntmps4
      go_wp2
      go_ret
      exact ⟨rfl, rfl⟩
  · go_enter Try.func4, Try.ntmps4
    go_wp2
    go_ret
    exact ⟨rfl, rfl⟩

set_option maxHeartbeats 400000 in
theorem inj_in (a b : ByteArray) (w : World) (h : a.size + b.size ≤ 1048576) :
    Calls Try.prog 4 #[.string a, .string b] w fun e w' => e = .returned (.bool true) ∧ w' = w := by
  have HE : Hid (((ws a).toList == (ws b).toList) = (a.toList == b.toList)) := ws_beq a b
  go_enter Try.func4, Try.ntmps4
  go_wp2_with (first | (go_at_call 11; go_in) | fail)
  refine (wake10 a w (by omega)).mono ?_
  rintro e w1 ⟨rfl, rfl⟩
  go_wp2_with fail
  refine (wake10 b _ (by omega)).mono ?_
  rintro e w2 ⟨rfl, rfl⟩
  have HE' := HE.out
  go_wp2
  go_ret
  exact ⟨by simp, rfl⟩

end Go.Proofs.Qxb6601931a
