import Derived.Test.Qxb6601931aCommon
namespace Go.Proofs.Qxb6601931a
open Go.RowKit

/-- what wakeFunction lays ahead of its argument, and behind it -/
def XF : ByteArray := preS ++ preF
def YF : ByteArray := sufF ++ sufS

theorem ws_nil : ws ⟨#[]⟩ = preS ++ sufS := by
  unfold ws
  rw [show (⟨#[]⟩ : ByteArray) = ByteArray.empty from rfl, ByteArray.append_empty]
theorem wf_pieces (s : ByteArray) : wf s = XF ++ s ++ YF := by
  unfold wf ws XF YF
  simp only [ByteArray.append_assoc]
theorem wf_nil : wf ⟨#[]⟩ = XF ++ YF := by
  rw [wf_pieces, show (⟨#[]⟩ : ByteArray) = ByteArray.empty from rfl, ByteArray.append_empty]
theorem zS : preS.size + sufS.size = 121 := rfl
theorem zF : XF.size + YF.size = 260 := by
  unfold XF YF; rw [ByteArray.size_append, ByteArray.size_append]; rfl

set_option maxHeartbeats 400000 in
theorem frame8 (w : World) : Calls Try.prog 8 #[] w fun e w' => e = .returned (.tuple #[.string (preS ++ sufS), .int .i64 preS.size]) ∧ ∃ q, w' = w.drewN q := by
  go_enter Try.func8, Try.ntmps8
  go_wp2_with fail
  refine (wake10 _ _ (by decide)).mono ?_
  rintro e w1 ⟨rfl, rfl⟩
  rw [ws_nil]
  go_wp2_with fail
  refine (wake10 _ _ (by decide)).mono ?_
  rintro e w1 ⟨rfl, rfl⟩
  go_wp2_with fail
  refine (wake10 _ _ (by decide)).mono ?_
  rintro e w1 ⟨rfl, rfl⟩
  go_wp2_with fail
  refine (common_pieces preS sufS _ (by rw [zS]; omega)).mono ?_
  rintro e w1 ⟨rfl, q, rfl⟩
  go_wp2
  go_ret2
  exact ⟨rfl, _, rfl⟩

set_option maxHeartbeats 400000 in
theorem frame13 (w : World) : Calls Try.prog 13 #[] w fun e w' => e = .returned (.tuple #[.string (XF ++ YF), .int .i64 XF.size]) ∧ ∃ q, w' = w.drewN q := by
  go_enter Try.func13, Try.ntmps13
  go_wp2_with fail
  refine (wake14 _ _ (by decide)).mono ?_
  rintro e w1 ⟨rfl, rfl⟩
  rw [wf_nil]
  go_wp2_with fail
  refine (wake14 _ _ (by decide)).mono ?_
  rintro e w1 ⟨rfl, rfl⟩
  go_wp2_with fail
  refine (wake14 _ _ (by decide)).mono ?_
  rintro e w1 ⟨rfl, rfl⟩
  rw [wf_pieces, wf_pieces]
  go_wp2_with fail
  refine (common_pieces XF YF _ (by rw [zF]; omega)).mono ?_
  rintro e w1 ⟨rfl, q, rfl⟩
  go_wp2
  go_ret2
  exact ⟨rfl, _, rfl⟩

set_option maxHeartbeats 400000 in
theorem law3 (s : ByteArray) (w : World) (hs : s.size ≤ maxLen) : Calls Try.prog 3 #[.string s] w fun e w' => e = .returned (.bool true) ∧ ∃ q, w' = w.drewN q := by
  unfold maxLen at hs
  by_cases h : s.size ≤ 1048576
  · go_enter Try.func3, Try.ntmps3
    go_wp2_with (first | (go_at_call 7; go_in) | fail)
    refine (frame8 _).mono ?_
    rintro e w1 ⟨rfl, q, rfl⟩
    go_wp2_with fail
    refine (wake10 _ _ (by omega)).mono ?_
    rintro e w1 ⟨rfl, rfl⟩
    go_wp2_with fail
    refine (inFrame_pieces preS s sufS _ (by rw [zS]; omega) (by omega)).mono ?_
    rintro e w1 ⟨rfl, q2, rfl⟩
    go_wp2
    go_ret
    exact ⟨rfl, q + q2, by simp⟩
  · go_enter Try.func3, Try.ntmps3
    go_wp2
    go_ret
    exact ⟨rfl, 0, rfl⟩

set_option maxHeartbeats 400000 in
theorem law5 (s : ByteArray) (w : World) (hs : s.size ≤ maxLen) : Calls Try.prog 5 #[.string s] w fun e w' => e = .returned (.bool true) ∧ ∃ q, w' = w.drewN q := by
  unfold maxLen at hs
  by_cases h : s.size ≤ 1048576
  · go_enter Try.func5, Try.ntmps5
    go_wp2_with (first | (go_at_call 12; go_in) | fail)
    refine (frame13 _).mono ?_
    rintro e w1 ⟨rfl, q, rfl⟩
    go_wp2_with fail
    refine (wake14 _ _ (by omega)).mono ?_
    rintro e w1 ⟨rfl, rfl⟩
    rw [wf_pieces]
    go_wp2_with fail
    refine (inFrame_pieces XF s YF _ (by rw [zF]; omega) (by omega)).mono ?_
    rintro e w1 ⟨rfl, q2, rfl⟩
    go_wp2
    go_ret
    exact ⟨rfl, q + q2, by simp⟩
  · go_enter Try.func5, Try.ntmps5
    go_wp2
    go_ret
    exact ⟨rfl, 0, rfl⟩

end Go.Proofs.Qxb6601931a
