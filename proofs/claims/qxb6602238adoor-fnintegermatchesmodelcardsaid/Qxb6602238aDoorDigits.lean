import Derived.Test.Qxb6602238aDoorScan
namespace Go.Proofs.Qxb6602238aDoor
open Go.RowKit
variable {w w1 w2 : World} {sb : Nat} {ao : Option Addr} {n cap : Nat} {bs : Nat → Int} {i : Nat}

theorem ret_bool {a b : Bool} (h : a = b) : Ending.returned (.bool a) = .returned (.bool b) := by rw [h]

set_option maxHeartbeats 400000 in
theorem at22 (w : World) (b : Int) (h : St w sb ao n cap bs i) :
    Calls Tryd.prog 22 #[.pointer (some ⟨sb, 0, none⟩), .int .u8 b] w fun e w' => e = .returned (.bool (atB bs n i b)) ∧ ∃ q, w' = w.drewN q := by
  have c0 := h.c0
  have c1 := h.c1
  by_cases hlt : i < n
  · obtain ⟨bb, rfl, hne, hlb, hd⟩ := h.data i hlt
    have hki : (i : Int) < (n : Int) := by omega
    go_enter Tryd.func22, Tryd.ntmps22
    go_wp2_with fail
    go_quiet (fail)
    go_wp2
    go_ret
    exact ⟨ret_bool (by simp [atB, hlt]), _, rfl⟩
  · have hdf : decide ((i : Int) < (n : Int)) = false := by simp; omega
    go_enter Tryd.func22, Tryd.ntmps22
    go_wp2_with fail
    go_quiet (fail)
    go_wp2
    go_ret
    exact ⟨ret_bool (by simp [atB, hlt]), _, rfl⟩

set_option maxHeartbeats 800000 in
theorem digits23 (w : World) (h : St w sb ao n cap bs i) (hn : n ≤ 2097152) :
    Calls Tryd.prog 23 #[.pointer (some ⟨sb, 0, none⟩)] w fun e w' => e = .returned (.bool (decide (i < sk isDg bs n i))) ∧ St w' sb ao n cap bs (sk isDg bs n i) ∧ w.grownBy w' (some sb) := by
  have hc1 := h.c1
  go_enter Tryd.func23, Tryd.ntmps23
  go_wp2_with fail
  clear hc1
  go_loopw [8] (fun _ wr => ∃ k : Nat, i ≤ k ∧ St wr sb ao n cap bs k ∧ sk isDg bs n k = sk isDg bs n i ∧ w.grownBy wr (some sb)) (fun _ wr => n - (intOf ((wr.cell? ⟨sb, 1, none⟩).getD undef)).toNat)
  case atStart => exact ⟨i, Nat.le_refl _, h, rfl, World.grownBy.refl _ _⟩
  case round =>
    obtain ⟨k, hik, hs, HE0, hg⟩ := hrel
    have HE : Hid (sk isDg bs n k = sk isDg bs n i) := HE0
    clear HE0
    have hk := hs.le
    have c0 := hs.c0
    have c1 := hs.c1
    have z1 := hs.z1
    by_cases hlt : k < n
    · obtain ⟨b, rfl, hne, hlb, hd⟩ := hs.data k hlt
      have hki : (k : Int) < (n : Int) := by omega
      by_cases h1 : 48 ≤ bs k
      · by_cases h2 : bs k ≤ 57
        · have HP : Hid (sk isDg bs n k = sk isDg bs n (k + 1)) := sk_yes hlt (by simp [isDg, h1, h2])
          go_wp2_with fail
          go_quiet (fail)
          go_wp2_with fail
          go_roundw
          case rel => exact ⟨k + 1, by omega, (hs.drewN _).set (k + 1) (by omega), by rw [← HP.out]; exact HE.out, gr_set (gr_drewN hg _) _⟩
          case measure => exact lt_meas hs ((hs.drewN nq).set (k + 1) (by omega)) (by omega)
        · have HP : Hid (sk isDg bs n k = k) := sk_no (by simp [isDg, h2])
          have hdf : decide (bs k ≤ 57) = false := by simp; omega
          go_wp2_with fail
          go_quiet (fail)
          go_wp2
          go_ret
          exact ⟨ret_bool (by rw [← HE.out, HP.out]), by rw [← HE.out, HP.out]; exact hs.drewN _, gr_drewN hg _⟩
      · have HP : Hid (sk isDg bs n k = k) := sk_no (by simp [isDg, h1])
        have hdf : decide (48 ≤ bs k) = false := by simp; omega
        go_wp2_with fail
        go_quiet (fail)
        go_wp2
        go_ret
        exact ⟨ret_bool (by rw [← HE.out, HP.out]), by rw [← HE.out, HP.out]; exact hs.drewN _, gr_drewN hg _⟩
    · have HP : Hid (sk isDg bs n k = k) := sk_end (by omega)
      have hdf : decide ((k : Int) < (n : Int)) = false := by simp; omega
      go_wp2_with fail
      go_quiet (fail)
      go_wp2
      go_ret
      exact ⟨ret_bool (by rw [← HE.out, HP.out]), by rw [← HE.out, HP.out]; exact hs.drewN _, gr_drewN hg _⟩

end Go.Proofs.Qxb6602238aDoor
