import Derived.Test.Qxb6601931aFrames
namespace Go.Proofs.Qxb6601931a
open Go.RowKit

/-- the statement that wakeFunction hands to wakeStatement -/
def MF (s : ByteArray) : ByteArray := preF ++ s ++ sufF
theorem wf_mf (s : ByteArray) : wf s = ws (MF s) := rfl
theorem mf_nil : MF ⟨#[]⟩ = preF ++ sufF := by
  unfold MF
  rw [show (⟨#[]⟩ : ByteArray) = ByteArray.empty from rfl, ByteArray.append_empty]
theorem mf_size (s : ByteArray) : (MF s).size = 139 + s.size := by
  unfold MF; simp only [ByteArray.size_append, preF_size, sufF_size]; omega
theorem zM : preF.size + sufF.size = 139 := rfl

theorem inner_ws (m : ByteArray) (w : World) (hm : m.size ≤ 4194304) :
    Calls Try.prog 16 #[.string (ws m), .string (preS ++ sufS), .int .i64 preS.size] w fun e w' => e = .returned (.tuple #[.string m, .bool true]) ∧ ∃ q, w' = w.drewN q :=
  inner_pieces preS m sufS w (by rw [zS]; omega) hm

theorem wake14m (s : ByteArray) (w : World) (hs : s.size ≤ 2097152) : Calls Try.prog 14 #[.string s] w fun e w' => e = .returned (.string (ws (MF s))) ∧ w' = w := wake14 s w hs

theorem common_mf (w : World) : Calls Try.prog 17 #[.string (MF ⟨#[0]⟩), .string (MF ⟨#[1]⟩)] w fun e w' => e = .returned (.int .i64 preF.size) ∧ ∃ q, w' = w.drewN q :=
  common_pieces preF sufF w (by rw [zM]; omega)

theorem inFrame_mf (s : ByteArray) (w : World) (hs : s.size ≤ 4194304) :
    Calls Try.prog 9 #[.string (MF s), .string (MF ⟨#[]⟩), .int .i64 preF.size, .string s] w fun e w' => e = .returned (.bool true) ∧ ∃ q, w' = w.drewN q := by
  rw [mf_nil]
  exact inFrame_pieces preF s sufF w (by rw [zM]; omega) hs

set_option maxHeartbeats 1000000 in
theorem law6 (s : ByteArray) (w : World) (hs : s.size ≤ maxLen) : Calls Try.prog 6 #[.string s] w fun e w' => e = .returned (.bool true) ∧ ∃ q, w' = w.drewN q := by
  unfold maxLen at hs
  by_cases h : s.size ≤ 1048576
  · have hz := mf_size s
    have hz1 : (MF s).size ≤ 4194304 := by omega
    clear hz
    go_enter Try.func6, Try.ntmps6
    go_wp2_with (first | (go_at_call 15; go_in) | fail)
    refine (frame8 _).mono ?_
    rintro e w1 ⟨rfl, q1, rfl⟩
    go_wp2_with fail
    refine (wake14m _ _ (by omega)).mono ?_
    rintro e w1 ⟨rfl, rfl⟩
    go_wp2_with fail
    refine (inner_ws _ _ hz1).mono ?_
    rintro e w1 ⟨rfl, q2, rfl⟩
    go_wp2_with fail
    refine (wake10 _ _ hz1).mono ?_
    rintro e w1 ⟨rfl, rfl⟩
    go_wp2_with fail
    refine (wake14m _ _ (by decide)).mono ?_
    rintro e w1 ⟨rfl, rfl⟩
    go_wp2_with fail
    refine (inner_ws _ _ (by rw [mf_size]; decide)).mono ?_
    rintro e w1 ⟨rfl, q3, rfl⟩
    go_wp2_with fail
    refine (wake14m _ _ (by decide)).mono ?_
    rintro e w1 ⟨rfl, rfl⟩
    go_wp2_with fail
    refine (inner_ws _ _ (by rw [mf_size]; decide)).mono ?_
    rintro e w1 ⟨rfl, q4, rfl⟩
    go_wp2_with fail
    refine (wake14m _ _ (by decide)).mono ?_
    rintro e w1 ⟨rfl, rfl⟩
    go_wp2_with fail
    refine (inner_ws _ _ (by rw [mf_size]; decide)).mono ?_
    rintro e w1 ⟨rfl, q5, rfl⟩
    go_wp2_with fail
    refine (common_mf _).mono ?_
    rintro e w1 ⟨rfl, q6, rfl⟩
    go_wp2_with fail
    refine (inFrame_mf s _ (by omega)).mono ?_
    rintro e w1 ⟨rfl, q7, rfl⟩
    go_wp2
    go_ret
    exact ⟨rfl, q1 + q2 + q3 + q4 + q5 + q6 + q7, by simp [Nat.add_assoc]⟩
  · go_enter Try.func6, Try.ntmps6
    go_wp2
    go_ret
    exact ⟨rfl, 0, rfl⟩

end Go.Proofs.Qxb6601931a
