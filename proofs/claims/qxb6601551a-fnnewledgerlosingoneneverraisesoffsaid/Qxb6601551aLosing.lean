import Derived.Test.Qxb6601551aCall
namespace Go.Proofs.Qxb6601551a
open Go.RowKit

/-- how many of the first n readings are not lost -/
def nl (l : Nat → Bool) : Nat → Nat
  | 0 => 0
  | n + 1 => nl l n + (if l n = true then 0 else 1)
theorem nl_le (l : Nat → Bool) (n : Nat) : nl l n ≤ n := by
  induction n with
  | zero => exact Nat.le_refl _
  | succ n ih => unfold nl; split <;> omega
theorem offs_nl (f : Nat → Int) (l : Nat → Bool) (x : Int) (n : Nat) : offs f l x n ≤ nl l n := by
  induction n with
  | zero => exact Nat.le_refl _
  | succ n ih =>
    unfold offs nl
    cases h : l n <;> simp <;> (try split) <;> omega
/-- reading j marked lost -/
def lose (l : Nat → Bool) (j i : Nat) : Bool := if i = j then true else l i
theorem offs_lose_past (f : Nat → Int) (l : Nat → Bool) (x : Int) (j n : Nat) (h : n ≤ j) : offs f (lose l j) x n = offs f l x n := by
  induction n with
  | zero => rfl
  | succ n ih =>
    unfold offs
    rw [ih (by omega)]
    simp [lose, show ¬ n = j by omega]
theorem offs_lose (f : Nat → Int) (l : Nat → Bool) (x : Int) (j n : Nat) : offs f (lose l j) x n ≤ offs f l x n ∧ offs f l x n ≤ offs f (lose l j) x n + (if j < n then 1 else 0) := by
  induction n with
  | zero => exact ⟨Nat.le_refl _, Nat.zero_le _⟩
  | succ n ih =>
    by_cases h : n = j
    · subst h
      have e := offs_lose_past f l x n n (Nat.le_refl _)
      unfold offs
      rw [e]
      simp only [lose, if_true, Nat.lt_succ_self]
      simp
      split <;> omega
    · unfold offs
      have e : lose l j n = l n := by simp [lose, h]
      rw [e]
      generalize (if (!l n && wrap64 (f n) != x) = true then 1 else 0) = t
      by_cases h2 : j < n
      · rw [if_pos h2] at ih
        rw [if_pos (by omega)]
        omega
      · rw [if_neg h2] at ih
        rw [if_neg (by omega)]
        omega

theorem prs_lose (f : Nat → Int) (l : Nat → Bool) (j i : Nat) : (if i = j * 2 + 1 then Value.bool true else prs f l i) = prs f (lose l j) i := by
  unfold prs lose
  by_cases h : i = j * 2 + 1
  · subst h
    simp [show (j * 2 + 1) % 2 = 1 by omega, show (j * 2 + 1) / 2 = j by omega]
  · rw [if_neg h]
    by_cases h2 : i % 2 = 0
    · rw [if_pos h2, if_pos h2]
    · rw [if_neg h2, if_neg h2, if_neg (show ¬ i / 2 = j by omega)]

set_option maxHeartbeats 400000 in
theorem losing_big (w : World) (x j : Int) (ao : Option Addr) (n cap : Nat) (hn : n ≤ maxLen) (h : 65536 < n) :
    Calls Try.prog 6 #[.int .i64 x, .slice ao n cap, .int .i64 j] w fun e w' => e = .returned (.bool true) ∧ Below w.heap.size w w' := by
  unfold maxLen at hn
  by_cases hb : n ≤ 1048576
  · go_enter Try.func6, Try.ntmps6
    go_wp2
    go_ret
    exact ⟨rfl, Below.refl _ _⟩
  · go_enter Try.func6, Try.ntmps6
    go_wp2
    go_ret
    exact ⟨rfl, Below.refl _ _⟩

set_option maxHeartbeats 400000 in
theorem losing_out (w : World) (x j : Int) (ao : Option Addr) (n cap : Nat) (hn : n ≤ 65536) (h : j < 0 ∨ (n : Int) ≤ j) :
    Calls Try.prog 6 #[.int .i64 x, .slice ao n cap, .int .i64 j] w fun e w' => e = .returned (.bool true) ∧ Below w.heap.size w w' := by
  by_cases h0 : j < 0
  · go_enter Try.func6, Try.ntmps6
    go_wp2
    go_ret
    exact ⟨rfl, Below.refl _ _⟩
  · have h1 : (n : Int) ≤ j := by omega
    clear h
    go_enter Try.func6, Try.ntmps6
    go_wp2
    go_ret
    exact ⟨rfl, Below.refl _ _⟩

set_option maxHeartbeats 400000 in
theorem losing_in (w : World) (x : Int) (j : Nat) (b off : Nat) (n cap : Nat) (f : Nat → Int) (l : Nat → Bool) (hn : n ≤ 65536) (hj : j < n) (hp : PS w (some ⟨b, off, none⟩) n f l) :
    Calls Try.prog 6 #[.int .i64 x, .slice (some ⟨b, off, none⟩) n cap, .int .i64 j] w fun e w' => e = .returned (.bool true) ∧ Below w.heap.size w w' := by
  have hji : (j : Int) < (n : Int) := by omega
  go_enter Try.func6, Try.ntmps6
  go_wp2_with (first | (go_at_call 15; go_in) | fail)
  refine (copy_some w ⟨b, off, none⟩ n cap f l (by omega) hp).mono ?_
  rintro e w1 ⟨rfl, o1, b1⟩
  have s1 := o1.lt
  go_wp2_with fail
  refine (copy_some w1 ⟨w.heap.size, 0, none⟩ n n f l (by omega) (PS.own o1)).mono ?_
  rintro e w2 ⟨rfl, o2, b2⟩
  have o1' := o1.below b2 s1
  have bb := b1.trans (b2.mono (by omega))
  clear hp o1 b1 b2
  have s2 := o2.lt
  go_wp2_with fail
  go_loop [8, 9] (fun c i => ∃ k : Nat, k ≤ n ∧ i = .int .i64 k ∧ c = .int .i64 (nl l k)) (fun _ i => n - (intOf i).toNat)
  case atStart => exact ⟨0, Nat.zero_le _, rfl, rfl⟩
  case round =>
    obtain ⟨k, hk, rfl, rfl⟩ := hrel
    have hnl := nl_le l k
    by_cases hlt : k < n
    · have hki : (k : Int) < (n : Int) := by omega
      have r1 : w2.cell? ⟨w.heap.size, k * 2 + 1, none⟩ = some (.bool (l k)) := by rw [o1'.cell (by omega), prs_lost]
      have HD : Hid (nl l (k + 1) = nl l k + (if l k = true then 0 else 1)) := rfl
      cases hl : l k with
      | true =>
        rw [hl] at r1 HD
        go_wp2
        go_round
        case rel => exact ⟨k + 1, by omega, by go_num, by rw [HD.out]; rfl⟩
        case measure => simp [intOf]; omega
      | false =>
        rw [hl] at r1 HD
        go_wp2
        go_round
        case rel => exact ⟨k + 1, by omega, by go_num, by rw [HD.out]; simp⟩
        case measure => simp [intOf]; omega
    · have hkn : k = n := by omega
      subst hkn
      have r1 := o2.cell (i := j * 2 + 1) (by omega)
      have z1 := o2.free (j * 2 + 1)
      rw [prs_lost] at r1
      go_wp2_with fail
      have p1 := PS.own (o1'.other (a := ⟨w1.heap.size, j * 2 + 1, none⟩) (by show w.heap.size ≠ w1.heap.size; omega) (.bool true))
      have p2 := (o2.set (j * 2 + 1) (.bool true)).congr (f' := prs f (lose l j)) (fun i _ => prs_lose f l j i)
      have b3 := bb.setCell (p := ⟨w1.heap.size, j * 2 + 1, none⟩) (show w.heap.size ≤ w1.heap.size by omega) (.bool true)
      have s3 := p2.lt
      clear r1 z1 o1' o2 bb
      refine (call_any _ x _ k k f l (by omega) p1).mono ?_
      rintro e w3 ⟨wb, rv, rl, rfl, -, -, -, -, -, -, b4⟩
      have p3 := PS.own (p2.below b4 s3)
      have b5 := b3.trans (b4.mono b3.size)
      clear p1 p2 b3 b4
      go_wp2_with fail
      refine (call_any _ x _ k k f (lose l j) (by omega) p3).mono ?_
      rintro e w4 ⟨wb', rv', rl', rfl, -, -, -, -, -, -, b6⟩
      have b7 := b5.trans (b6.mono b5.size)
      have e1 := offs_lose f l x j k
      have e2 := offs_nl f l x k
      have e3 := offs_le f l x k
      rw [if_pos hj] at e1
      obtain ⟨e4, e5⟩ := e1
      have i4 : (offs f (lose l j) x k : Int) ≤ (offs f l x k : Int) := by omega
      have i5 : (offs f l x k : Int) ≤ (offs f (lose l j) x k : Int) + 1 := by omega
      have i2 : (offs f l x k : Int) ≤ (nl l k : Int) := by omega
      clear p3 b5 b6
      go_wp2
      go_ret
      exact ⟨rfl, b7⟩

end Go.Proofs.Qxb6601551a
