import Derived.Test.Qxb6601931aProg
import Derived.WalkKit
import Derived.WalkSpells
import Derived.WalkLawsBesides
import Derived.Deep.QuietTactic
import Derived.BigQuiet
namespace Go.Proofs.Qxb6601931a
open Go.RowKit

/-! the four constant pieces of the two texts, as bytes -/
def preS : ByteArray := ⟨#[10, 9, 68, 79, 32, 36, 36, 10, 9, 66, 69, 71, 73, 78, 10, 9, 9, 69, 88, 69, 67, 85, 84, 69, 32, 102, 111, 114, 109, 97, 116, 40, 36, 115, 116, 97, 116, 101, 109, 101, 110, 116, 36]⟩
def sufS : ByteArray := ⟨#[10, 9, 9, 36, 115, 116, 97, 116, 101, 109, 101, 110, 116, 36, 44, 32, 102, 111, 114, 109, 97, 116, 40, 39, 37, 73, 46, 107, 101, 101, 112, 115, 101, 110, 116, 95, 111, 117, 116, 98, 111, 120, 95, 119, 97, 107, 101, 39, 44, 32, 99, 117, 114, 114, 101, 110, 116, 95, 115, 99, 104, 101, 109, 97, 40, 41, 41, 41, 59, 10, 9, 69, 78, 68, 10, 9, 36, 36]⟩
def preF : ByteArray := ⟨#[10, 9, 9, 9, 67, 82, 69, 65, 84, 69, 32, 79, 82, 32, 82, 69, 80, 76, 65, 67, 69, 32, 70, 85, 78, 67, 84, 73, 79, 78, 32, 107, 101, 101, 112, 115, 101, 110, 116, 95, 111, 117, 116, 98, 111, 120, 95, 119, 97, 107, 101, 40, 41, 32, 82, 69, 84, 85, 82, 78, 83, 32, 116, 114, 105, 103, 103, 101, 114, 32, 76, 65, 78, 71, 85, 65, 71, 69, 32, 112, 108, 112, 103, 115, 113, 108, 32, 65, 83, 32, 36, 98, 111, 100, 121, 36, 10, 9, 9, 9, 66, 69, 71, 73, 78]⟩
def sufF : ByteArray := ⟨#[10, 9, 9, 9, 9, 82, 69, 84, 85, 82, 78, 32, 78, 85, 76, 76, 59, 10, 9, 9, 9, 69, 78, 68, 10, 9, 9, 9, 36, 98, 111, 100, 121, 36]⟩

theorem preS_size : preS.size = 43 := rfl
theorem sufS_size : sufS.size = 78 := rfl
theorem preF_size : preF.size = 105 := rfl
theorem sufF_size : sufF.size = 34 := rfl

/-- wakeStatement as a plain function -/
def ws (s : ByteArray) : ByteArray := preS ++ s ++ sufS
/-- wakeFunction as a plain function -/
def wf (s : ByteArray) : ByteArray := ws (preF ++ s ++ sufF)
theorem ws_size (s : ByteArray) : (ws s).size = 121 + s.size := by
  unfold ws; simp only [ByteArray.size_append, preS_size, sufS_size]; omega
theorem wf_size (s : ByteArray) : (wf s).size = 260 + s.size := by
  unfold wf; rw [ws_size]; simp only [ByteArray.size_append, preF_size, sufF_size]; omega

set_option maxHeartbeats 400000 in
theorem wake18 (s : ByteArray) (w : World) (hs : s.size ≤ 4194304) : Calls Try.prog 18 #[.string s] w fun e w' => e = .returned (.string (ws s)) ∧ w' = w := by
  go_enter Try.func18, Try.ntmps18
  go_wp2
  go_ret
  exact ⟨rfl, rfl⟩

set_option maxHeartbeats 400000 in
theorem wake10 (s : ByteArray) (w : World) (hs : s.size ≤ 4194304) : Calls Try.prog 10 #[.string s] w fun e w' => e = .returned (.string (ws s)) ∧ w' = w := by
  go_enter Try.func10, Try.ntmps10
  go_wp2_with fail
  refine (wake18 s w hs).mono ?_
  rintro e w' ⟨rfl, rfl⟩
  go_wp2
  go_ret
  exact ⟨rfl, rfl⟩

set_option maxHeartbeats 400000 in
theorem wake19 (s : ByteArray) (w : World) (hs : s.size ≤ 2097152) : Calls Try.prog 19 #[.string s] w fun e w' => e = .returned (.string (wf s)) ∧ w' = w := by
  have hz : (preF ++ s ++ sufF).size ≤ 4194304 := by simp only [ByteArray.size_append, preF_size, sufF_size]; omega
  have hc := wake18 (preF ++ s ++ sufF) w hz
  clear hz
  go_enter Try.func19, Try.ntmps19
  go_wp2_with fail
  refine hc.mono ?_
  rintro e w' ⟨rfl, rfl⟩
  go_wp2
  go_ret
  exact ⟨rfl, rfl⟩

set_option maxHeartbeats 400000 in
theorem wake14 (s : ByteArray) (w : World) (hs : s.size ≤ 2097152) : Calls Try.prog 14 #[.string s] w fun e w' => e = .returned (.string (wf s)) ∧ w' = w := by
  go_enter Try.func14, Try.ntmps14
  go_wp2_with fail
  refine (wake19 s w hs).mono ?_
  rintro e w' ⟨rfl, rfl⟩
  go_wp2
  go_ret
  exact ⟨rfl, rfl⟩

end Go.Proofs.Qxb6601931a
