import Derived.Test.Qxb6602505aDoorMap
import Derived.Test.Qxb6602505aDoorShelf
namespace Go.Proofs.Qxb6602505aDoor
open Go.RowKit
variable {w w1 : World} {ao : Option Addr} {n cap : Nat} {ss : Nat → ByteArray}

/-- what slices.Contains answers of the values, in every later world -/
def Has (w : World) (ao : Option Addr) (n cap : Nat) (s : ByteArray) (c : Bool) : Prop :=
  ∀ W : World, Below w.heap.size w W → Calls Tryd.prog 12 #[.slice ao n cap, .string s] W fun e w' => e = .returned (.bool c) ∧ W = w'

theorem has_any (h : SS w ao n ss) (hn : n ≤ 65536) (s : ByteArray) : ∃ c, Has w ao n cap s c := by
  rcases Nat.eq_zero_or_pos n with h0 | h0
  · subst h0
    exact ⟨false, fun W _ => (Tryd.slices_Contains_string_empty ao cap s W).mono fun _ _ ⟨a, b⟩ => ⟨a, b.symm⟩⟩
  · obtain ⟨b, off, rfl, hlb, _⟩ := h 0 h0
    refine ⟨Lib.containsS (((List.range n).map ss).take n) s, fun W hb => (Tryd.slices_Contains_string b off n cap ((List.range n).map ss) s W (by simp) (by omega) (fun j hj => ?_)).mono fun _ _ ⟨a, b⟩ => ⟨a, b.symm⟩⟩
    have hj' : j < n := by simpa using hj
    obtain ⟨b', off', ha, hl, hc, _⟩ := h j hj'
    simp at ha
    obtain ⟨rfl, rfl⟩ := ha
    rw [hb.cell (p := ⟨b, off + j, none⟩) hl, hc]
    simp [List.getD, hj']

set_option maxHeartbeats 1000000 in
theorem mat_0 (w : World) (key s : ByteArray) (bd : Int) (m : Value) (ok : Bool) (hl : Looks w m key s ok) :
    Calls Tryd.prog 9 #[.string key, .int .i64 0, .slice ao n cap, .int .i64 bd, m] w fun e w' => e = .returned (.bool ok) ∧ Below w.heap.size w w' := by
  have hrun := hl (w.alloc (.cells #[.string key, .int .i64 0, .slice ao n cap, .int .i64 bd] 32)) ((Below.refl _ _).alloc (Nat.le_refl _) _)
  go_enter Tryd.func9, Tryd.ntmps9
  go_wp2
  go_ret
  exact ⟨rfl, (Below.refl _ _).alloc (Nat.le_refl _) _⟩

set_option maxHeartbeats 1000000 in
theorem mat_1 (w : World) (key s : ByteArray) (bd : Int) (m : Value) (ok : Bool) (hl : Looks w m key s ok) :
    Calls Tryd.prog 9 #[.string key, .int .i64 1, .slice ao n cap, .int .i64 bd, m] w fun e w' => e = .returned (.bool (!ok)) ∧ Below w.heap.size w w' := by
  have hrun := hl (w.alloc (.cells #[.string key, .int .i64 1, .slice ao n cap, .int .i64 bd] 32)) ((Below.refl _ _).alloc (Nat.le_refl _) _)
  go_enter Tryd.func9, Tryd.ntmps9
  go_wp2
  go_ret
  exact ⟨rfl, (Below.refl _ _).alloc (Nat.le_refl _) _⟩

set_option maxHeartbeats 1000000 in
theorem mat_2 (w : World) (key s : ByteArray) (bd : Int) (m : Value) (ok c : Bool) (hl : Looks w m key s ok) (hc : Has w ao n cap s c) :
    Calls Tryd.prog 9 #[.string key, .int .i64 2, .slice ao n cap, .int .i64 bd, m] w fun e w' => e = .returned (.bool (ok && c)) ∧ Below w.heap.size w w' := by
  have hbel : Below w.heap.size w (w.alloc (.cells #[.string key, .int .i64 2, .slice ao n cap, .int .i64 bd] 32)) := (Below.refl _ _).alloc (Nat.le_refl _) _
  have hrun := hl _ hbel
  have HC := hid (hc _ hbel)
  clear hbel
  cases ok with
  | true =>
    go_enter Tryd.func9, Tryd.ntmps9
    go_wp2_with (first | (go_at_call 11; go_in) | (go_at_call 12; refine HC.out.mono ?_; rintro e w' ⟨rfl, rfl⟩))
    go_ret
    exact ⟨by simp, (Below.refl _ _).alloc (Nat.le_refl _) _⟩
  | false =>
    clear HC
    go_enter Tryd.func9, Tryd.ntmps9
    go_wp2
    go_ret
    exact ⟨by simp, (Below.refl _ _).alloc (Nat.le_refl _) _⟩

set_option maxHeartbeats 1000000 in
theorem mat_4 (w : World) (key s : ByteArray) (bd : Int) (m : Value) (ok c : Bool) (hl : Looks w m key s ok) (hc : Has w ao n cap s c) :
    Calls Tryd.prog 9 #[.string key, .int .i64 4, .slice ao n cap, .int .i64 bd, m] w fun e w' => e = .returned (.bool (ok && c)) ∧ Below w.heap.size w w' := by
  have hbel : Below w.heap.size w (w.alloc (.cells #[.string key, .int .i64 4, .slice ao n cap, .int .i64 bd] 32)) := (Below.refl _ _).alloc (Nat.le_refl _) _
  have hrun := hl _ hbel
  have HC := hid (hc _ hbel)
  clear hbel
  cases ok with
  | true =>
    go_enter Tryd.func9, Tryd.ntmps9
    go_wp2_with (first | (go_at_call 11; go_in) | (go_at_call 12; refine HC.out.mono ?_; rintro e w' ⟨rfl, rfl⟩))
    go_ret
    exact ⟨by simp, (Below.refl _ _).alloc (Nat.le_refl _) _⟩
  | false =>
    clear HC
    go_enter Tryd.func9, Tryd.ntmps9
    go_wp2
    go_ret
    exact ⟨by simp, (Below.refl _ _).alloc (Nat.le_refl _) _⟩

set_option maxHeartbeats 1000000 in
theorem mat_3 (w : World) (key s : ByteArray) (bd : Int) (m : Value) (ok c : Bool) (hl : Looks w m key s ok) (hc : Has w ao n cap s c) :
    Calls Tryd.prog 9 #[.string key, .int .i64 3, .slice ao n cap, .int .i64 bd, m] w fun e w' => e = .returned (.bool (!ok || !c)) ∧ Below w.heap.size w w' := by
  have hbel : Below w.heap.size w (w.alloc (.cells #[.string key, .int .i64 3, .slice ao n cap, .int .i64 bd] 32)) := (Below.refl _ _).alloc (Nat.le_refl _) _
  have hrun := hl _ hbel
  have HC := hid (hc _ hbel)
  clear hbel
  cases ok with
  | true =>
    go_enter Tryd.func9, Tryd.ntmps9
    go_wp2_with (first | (go_at_call 11; go_in) | (go_at_call 12; refine HC.out.mono ?_; rintro e w' ⟨rfl, rfl⟩))
    go_ret
    exact ⟨by simp, (Below.refl _ _).alloc (Nat.le_refl _) _⟩
  | false =>
    clear HC
    go_enter Tryd.func9, Tryd.ntmps9
    go_wp2
    go_ret
    exact ⟨by simp, (Below.refl _ _).alloc (Nat.le_refl _) _⟩

set_option maxHeartbeats 1000000 in
theorem mat_5 (w : World) (key s : ByteArray) (bd : Int) (m : Value) (ok c : Bool) (hl : Looks w m key s ok) (hc : Has w ao n cap s c) :
    Calls Tryd.prog 9 #[.string key, .int .i64 5, .slice ao n cap, .int .i64 bd, m] w fun e w' => e = .returned (.bool (!ok || !c)) ∧ Below w.heap.size w w' := by
  have hbel : Below w.heap.size w (w.alloc (.cells #[.string key, .int .i64 5, .slice ao n cap, .int .i64 bd] 32)) := (Below.refl _ _).alloc (Nat.le_refl _) _
  have hrun := hl _ hbel
  have HC := hid (hc _ hbel)
  clear hbel
  cases ok with
  | true =>
    go_enter Tryd.func9, Tryd.ntmps9
    go_wp2_with (first | (go_at_call 11; go_in) | (go_at_call 12; refine HC.out.mono ?_; rintro e w' ⟨rfl, rfl⟩))
    go_ret
    exact ⟨by simp, (Below.refl _ _).alloc (Nat.le_refl _) _⟩
  | false =>
    clear HC
    go_enter Tryd.func9, Tryd.ntmps9
    go_wp2
    go_ret
    exact ⟨by simp, (Below.refl _ _).alloc (Nat.le_refl _) _⟩

end Go.Proofs.Qxb6602505aDoor
