import Derived.Test.Qxb6602238aDoorProg
import Derived.Test.Qxb6602238aDoorOwn
import Derived.Test.Qxb6602238aDoorPlain
namespace Go.Proofs.Qxb6602238aDoor
open Go.RowKit


set_option maxHeartbeats 400000 in
theorem isSpace21 (b : Int) (w : World) : Calls Tryd.prog 21 #[.int .u8 b] w fun e w' => e = .returned (.bool (isSp b)) ∧ w' = w := by
  go_enter Tryd.func21, Tryd.ntmps21
  go_wp2
  all_goals (go_ret; refine ⟨?_, rfl⟩; simp [isSp]; try omega)

set_option maxHeartbeats 400000 in
theorem isSpace9 (b : Int) (w : World) : Calls Tryd.prog 9 #[.int .u8 b] w fun e w' => e = .returned (.bool (isSp b)) ∧ w' = w := by
  go_enter Tryd.func9, Tryd.ntmps9
  go_wp2
  all_goals (go_ret; refine ⟨?_, rfl⟩; simp [isSp]; try omega)

set_option maxHeartbeats 400000 in
theorem isDigit19 (b : Int) (w : World) : Calls Tryd.prog 19 #[.int .u8 b] w fun e w' => e = .returned (.bool (isDg b)) ∧ w' = w := by
  go_enter Tryd.func19, Tryd.ntmps19
  go_wp2
  all_goals (go_ret; refine ⟨?_, rfl⟩; simp [isDg]; try omega)

/-- the three cells of a scan -/
def scn (ao : Option Addr) (n cap : Nat) (i : Nat) (k : Nat) : Value := if k = 0 then .slice ao n cap else if k = 1 then .int .i64 i else .slice none 0 0

/-- A scan at block sb over the n bytes 'bs' that lie at 'ao', standing at i. -/
structure St (w : World) (sb : Nat) (ao : Option Addr) (n cap : Nat) (bs : Nat → Int) (i : Nat) : Prop where
  own : Own w sb 3 (scn ao n cap i)
  le : i ≤ n
  data : ∀ j, j < n → ∃ b, ao = some ⟨b, 0, none⟩ ∧ b ≠ sb ∧ b < w.heap.size ∧ w.cell? ⟨b, j, none⟩ = some (.int .u8 (bs j))

variable {w w1 w2 : World} {sb : Nat} {ao : Option Addr} {n cap : Nat} {bs : Nat → Int} {i : Nat}

theorem St.c0 (h : St w sb ao n cap bs i) : w.cell? ⟨sb, 0, none⟩ = some (.slice ao n cap) := h.own.cell (by omega)
theorem St.c1 (h : St w sb ao n cap bs i) : w.cell? ⟨sb, 1, none⟩ = some (.int .i64 i) := h.own.cell (by omega)
theorem St.z1 (h : St w sb ao n cap bs i) : w.frozen? ⟨sb, 1, none⟩ = false := h.own.free 1
theorem St.set (h : St w sb ao n cap bs i) (k : Nat) (hk : k ≤ n) : St (w.setCell ⟨sb, 1, none⟩ (.int .i64 k)) sb ao n cap bs k := by
  refine ⟨(h.own.set 1 _).congr fun j hj => ?_, hk, fun j hj => ?_⟩
  · match j, hj with
    | 0, _ => rfl
    | 1, _ => rfl
    | 2, _ => rfl
  · obtain ⟨b, ha, hne, hlt, hc⟩ := h.data j hj
    refine ⟨b, ha, hne, by simpa using hlt, ?_⟩
    rw [World.cell?_of_block (w := w) (a := ⟨b, j, none⟩) (Below.heap_setCell _ _ _ _ hne)]
    exact hc
theorem St.drewN (h : St w sb ao n cap bs i) (q : Nat) : St (w.drewN q) sb ao n cap bs i := ⟨h.own, h.le, h.data⟩
theorem lt_meas {k : Nat} (h : St w sb ao n cap bs i) (h' : St w1 sb ao n cap bs k) (hlt : n - k < n - i) :
    n - (intOf ((w1.cell? ⟨sb, 1, none⟩).getD undef)).toNat < n - (intOf ((w.cell? ⟨sb, 1, none⟩).getD undef)).toNat := by
  rw [h.c1, h'.c1]
  simpa [intOf] using hlt
/-- what a call leaves that writes the scan alone -/
theorem gr_drewN (h : w.grownBy w1 (some sb)) (q : Nat) : w.grownBy (w1.drewN q) (some sb) := ⟨h.os, h.tape, h.output, h.size, h.block⟩
theorem gr_set (h : w.grownBy w1 (some sb)) (v : Value) : w.grownBy (w1.setCell ⟨sb, 1, none⟩ v) (some sb) :=
  ⟨h.os, h.tape, h.output, by simpa using h.size, fun k hk hne => by
    rw [Below.heap_setCell _ _ _ _ (fun e => hne (by rw [e]))]
    exact h.block k hk hne⟩
theorem gr_trans (h : w.grownBy w1 (some sb)) (h' : w1.grownBy w2 (some sb)) : w.grownBy w2 (some sb) :=
  ⟨h'.os.trans h.os, h'.tape.trans h.tape, h'.output.trans h.output, Nat.le_trans h.size h'.size, fun k hk hne => (h'.block k (Nat.lt_of_lt_of_le hk h.size) hne).trans (h.block k hk hne)⟩

set_option maxHeartbeats 400000 in
theorem space14 (w : World) (h : St w sb ao n cap bs i) (hn : n ≤ 2097152) :
    Calls Tryd.prog 14 #[.pointer (some ⟨sb, 0, none⟩)] w fun e w' => e = .returned (.tuple #[]) ∧ St w' sb ao n cap bs (sk isSp bs n i) ∧ w.grownBy w' (some sb) := by
  go_enter Tryd.func14, Tryd.ntmps14
  go_wp2_with fail
  go_loopw [2] (fun _ wr => ∃ k : Nat, St wr sb ao n cap bs k ∧ sk isSp bs n k = sk isSp bs n i ∧ w.grownBy wr (some sb)) (fun _ wr => n - (intOf ((wr.cell? ⟨sb, 1, none⟩).getD undef)).toNat)
  case atStart => exact ⟨i, h, rfl, World.grownBy.refl _ _⟩
  case round =>
    obtain ⟨k, hs, HE, hg⟩ := hrel
    have hk := hs.le
    have c0 := hs.c0
    have c1 := hs.c1
    have z1 := hs.z1
    by_cases hlt : k < n
    · obtain ⟨b, rfl, hne, hlb, hd⟩ := hs.data k hlt
      have hki : (k : Int) < (n : Int) := by omega
      have hsp := isSpace21 (bs k)
      cases hp : isSp (bs k) with
      | true =>
        have HP : Hid (sk isSp bs n k = sk isSp bs n (k + 1)) := sk_yes hlt hp
        rw [hp] at hsp
        have HC : Hid (∀ w, Calls Tryd.prog 21 #[.int .u8 (bs k)] w fun e w' => e = .returned (.bool true) ∧ w' = w) := hsp
        clear hp hsp
        go_wp2_with fail
        go_quiet ((go_at_call 21; exact Calls.quiet_of_same (HC.out _)))
        go_wp2_with fail
        go_roundw
        case rel => exact ⟨k + 1, (hs.drewN _).set (k + 1) (by omega), by rw [← HP.out]; exact HE, gr_set (gr_drewN hg _) _⟩
        case measure => exact lt_meas hs ((hs.drewN nq).set (k + 1) (by omega)) (by omega)
      | false => 
        have HP : Hid (sk isSp bs n k = k) := sk_no hp
        rw [hp] at hsp
        have HC : Hid (∀ w, Calls Tryd.prog 21 #[.int .u8 (bs k)] w fun e w' => e = .returned (.bool false) ∧ w' = w) := hsp
        clear hp hsp
        go_wp2_with fail
        go_quiet ((go_at_call 21; exact Calls.quiet_of_same (HC.out _)))
        go_wp2_with fail
        go_end0
        exact ⟨rfl, by rw [← HE, HP.out]; exact hs.drewN _, gr_drewN hg _⟩
    · have HP : Hid (sk isSp bs n k = k) := sk_end (by omega)
      have hdf : decide ((k : Int) < (n : Int)) = false := by simp; omega
      go_wp2_with fail
      go_quiet (fail)
      go_wp2_with fail
      go_end0
      exact ⟨rfl, by rw [← HE, HP.out]; exact hs.drewN _, gr_drewN hg _⟩

end Go.Proofs.Qxb6602238aDoor
