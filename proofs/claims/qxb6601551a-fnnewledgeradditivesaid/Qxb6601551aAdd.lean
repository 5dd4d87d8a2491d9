import Derived.Test.Qxb6601551aKeeps
namespace Go.Proofs.Qxb6601551a
open Go.RowKit

/-- two columns, one behind the other -/
def cat {α : Type} (n1 : Nat) (f1 f2 : Nat → α) (i : Nat) : α := if i < n1 then f1 i else f2 (i - n1)
theorem cat_l {α : Type} {n1 : Nat} {f1 f2 : Nat → α} {i : Nat} (h : i < n1) : cat n1 f1 f2 i = f1 i := if_pos h
theorem cat_r {α : Type} {n1 : Nat} {f1 f2 : Nat → α} (m : Nat) : cat n1 f1 f2 (n1 + m) = f2 m := by
  unfold cat
  rw [if_neg (by omega), show n1 + m - n1 = m by omega]
theorem offs_succ (f : Nat → Int) (l : Nat → Bool) (x : Int) (n : Nat) : offs f l x (n + 1) = offs f l x n + (if (!l n && wrap64 (f n) != x) = true then 1 else 0) := rfl
theorem offs_cat_l (f1 f2 : Nat → Int) (l1 l2 : Nat → Bool) (x : Int) (n1 k : Nat) (h : k ≤ n1) : offs (cat n1 f1 f2) (cat n1 l1 l2) x k = offs f1 l1 x k := by
  induction k with
  | zero => rfl
  | succ k ih =>
    unfold offs
    rw [ih (by omega), cat_l (show k < n1 by omega), cat_l (show k < n1 by omega)]
theorem offs_cat (f1 f2 : Nat → Int) (l1 l2 : Nat → Bool) (x : Int) (n1 n2 : Nat) : offs (cat n1 f1 f2) (cat n1 l1 l2) x (n1 + n2) = offs f1 l1 x n1 + offs f2 l2 x n2 := by
  induction n2 with
  | zero => simp [offs, offs_cat_l f1 f2 l1 l2 x n1 n1 (Nat.le_refl _)]
  | succ k ih =>
    show offs (cat n1 f1 f2) (cat n1 l1 l2) x (n1 + k + 1) = _
    rw [offs_succ, offs_succ, cat_r, cat_r, ih]
    omega

set_option maxHeartbeats 400000 in
theorem add_big (w : World) (x : Int) (a1 a2 : Option Addr) (n1 c1 n2 c2 : Nat) (h1 : n1 ≤ maxLen) (h2 : n2 ≤ maxLen) (h : 32768 < n1 ∨ 32768 < n2) :
    Calls Try.prog 5 #[.int .i64 x, .slice a1 n1 c1, .slice a2 n2 c2] w fun e w' => e = .returned (.bool true) ∧ Below w.heap.size w w' := by
  unfold maxLen at h1 h2
  by_cases b1 : n1 ≤ 1048576
  · by_cases b2 : n2 ≤ 1048576
    · by_cases b3 : n1 + n2 ≤ 1048576
      · by_cases b4 : n1 ≤ 32768
        · have b5 : 32768 < n2 := by omega
          clear h
          go_enter Try.func5, Try.ntmps5
          go_wp2
          go_ret
          exact ⟨rfl, Below.refl _ _⟩
        · clear h
          go_enter Try.func5, Try.ntmps5
          go_wp2
          go_ret
          exact ⟨rfl, Below.refl _ _⟩
      · clear h
        go_enter Try.func5, Try.ntmps5
        go_wp2
        go_ret
        exact ⟨rfl, Below.refl _ _⟩
    · clear h
      go_enter Try.func5, Try.ntmps5
      go_wp2
      go_ret
      exact ⟨rfl, Below.refl _ _⟩
  · clear h
    go_enter Try.func5, Try.ntmps5
    go_wp2
    go_ret
    exact ⟨rfl, Below.refl _ _⟩

set_option maxHeartbeats 1000000 in
theorem add_in (w : World) (x : Int) (a1 a2 : Option Addr) (n1 c1 n2 c2 : Nat) (f1 f2 : Nat → Int) (l1 l2 : Nat → Bool) (h1 : n1 ≤ 32768) (h2 : n2 ≤ 32768)
    (g1 : (a1 = none ∧ n1 = 0 ∧ c1 = 0) ∨ ∃ a, a1 = some a) (g2 : (a2 = none ∧ n2 = 0 ∧ c2 = 0) ∨ ∃ a, a2 = some a) (p1 : PS w a1 n1 f1 l1) (p2 : PS w a2 n2 f2 l2) :
    Calls Try.prog 5 #[.int .i64 x, .slice a1 n1 c1, .slice a2 n2 c2] w fun e w' => e = .returned (.bool true) ∧ Below w.heap.size w w' := by
  have hmk := make_at (Try.underlying26) Try.info31 (n1 + n2) (by omega) (by decide)
  rw [show ((n1 + n2 : Nat) : Int) = (n1 : Int) + (n2 : Int) by omega] at hmk
  obtain ⟨F, hF⟩ : ∃ F, F = cat n1 f1 f2 := ⟨_, rfl⟩
  obtain ⟨L, hL⟩ : ∃ L, L = cat n1 l1 l2 := ⟨_, rfl⟩
  have G1 : Hid ((a1 = none ∧ n1 = 0 ∧ c1 = 0) ∨ ∃ a, a1 = some a) := g1
  have G2 : Hid ((a2 = none ∧ n2 = 0 ∧ c2 = 0) ∨ ∃ a, a2 = some a) := g2
  have EF : Hid (F = cat n1 f1 f2) := hF
  have EL : Hid (L = cat n1 l1 l2) := hL
  clear g1 g2 hF hL
  go_enter Try.func5, Try.ntmps5
  go_wp2_with (first | (go_at_call 11; go_in) | fail)
  refine (copy_any w a1 n1 c1 f1 l1 (by omega) G1.out p1).mono ?_
  rintro e w1 ⟨ao1, cp1, rfl, q1, b1⟩
  have p2' := p2.below b1
  go_wp2_with fail
  refine (copy_any w1 a2 n2 c2 f2 l2 (by omega) G2.out p2').mono ?_
  rintro e w2 ⟨ao2, cp2, rfl, q2, b2⟩
  have q1' := q1.below b2
  have bb := b1.trans (b2.mono b1.size)
  clear p1 p2 p2' q1 b1 b2 G1 G2
  go_wp2_with fail
  go_loopw [8] (fun i wr => ∃ k : Nat, k ≤ n1 ∧ i = .int .i64 k ∧ Own wr w2.heap.size ((n1 + n2) * 2) (fun i => if i < k * 2 then prs F L i else prs (fun _ => 0) (fun _ => false) i) ∧ Below w2.heap.size w2 wr)
    (fun i _ => n1 - (intOf i).toNat)
  case atStart =>
    refine ⟨0, Nat.zero_le _, rfl, ?_, ?_⟩
    · exact (Own.made w2 _ ((n1 + n2) * 2) 31).congr fun i _ => by
        rcases Nat.mod_two_eq_zero_or_one i with h | h <;> simp [prs, h]
    · exact (Below.refl _ _).alloc (Nat.le_refl _) _
  case round =>
    obtain ⟨k, hk, rfl, h0, hb⟩ := hrel
    by_cases hlt : k < n1
    · have hki : (k : Int) < (n1 : Int) := by omega
      have d0 := h0.cell (i := k * 2) (by omega)
      have d1 := h0.cell (i := k * 2 + 1) (by omega)
      have z0 := h0.free (k * 2)
      have z1 := h0.free (k * 2 + 1)
      rw [if_neg (by omega), prs_val] at d0
      rw [if_neg (by omega), prs_lost] at d1
      obtain ⟨b, off, rfl, hlb, s0, s1⟩ := q1' k hlt
      clear hmk
      have r0 : wr.cell? ⟨b, off + k * 2, none⟩ = some (.int .u64 (F k)) := by rw [hb.cell (p := ⟨b, off + k * 2, none⟩) hlb, s0, EF.out, cat_l hlt]
      have r1 : wr.cell? ⟨b, off + k * 2 + 1, none⟩ = some (.bool (L k)) := by rw [hb.cell (p := ⟨b, off + k * 2 + 1, none⟩) hlb, s1, EL.out, cat_l hlt]
      clear s0 s1
      go_wp2
      go_roundw
      case rel => exact ⟨k + 1, by omega, by go_num, ((h0.set (k * 2) _).set (k * 2 + 1) _).congr fun i _ => prs_step F L k i, ((hb.setCell (by simp) _).setCell (by simp) _)⟩
      case measure => simp [intOf]; omega
    · have hkn : k = n1 := by omega
      subst hkn
      go_wp2_with fail
      go_loopw [9] (fun i wr => ∃ m : Nat, m ≤ n2 ∧ i = .int .i64 m ∧ Own wr w2.heap.size ((k + n2) * 2) (fun i => if i < (k + m) * 2 then prs F L i else prs (fun _ => 0) (fun _ => false) i) ∧ Below w2.heap.size w2 wr)
        (fun i _ => n2 - (intOf i).toNat)
      case atStart => exact ⟨0, Nat.zero_le _, rfl, h0, hb⟩
      case round =>
        clear h0 hb
        obtain ⟨m, hm, rfl, h0, hb⟩ := hrel
        by_cases hlt2 : m < n2
        · have hki : (m : Int) < (n2 : Int) := by omega
          have d0 := h0.cell (i := (k + m) * 2) (by omega)
          have d1 := h0.cell (i := (k + m) * 2 + 1) (by omega)
          have z0 := h0.free ((k + m) * 2)
          have z1 := h0.free ((k + m) * 2 + 1)
          rw [if_neg (by omega), prs_val] at d0
          rw [if_neg (by omega), prs_lost] at d1
          obtain ⟨b, off, rfl, hlb, s0, s1⟩ := q2 m hlt2
          clear hmk
          have r0 : wr.cell? ⟨b, off + m * 2, none⟩ = some (.int .u64 (F (k + m))) := by rw [hb.cell (p := ⟨b, off + m * 2, none⟩) hlb, s0, EF.out, cat_r]
          have r1 : wr.cell? ⟨b, off + m * 2 + 1, none⟩ = some (.bool (L (k + m))) := by rw [hb.cell (p := ⟨b, off + m * 2 + 1, none⟩) hlb, s1, EL.out, cat_r]
          clear s0 s1
          go_wp2
          go_roundw
          case rel => exact ⟨m + 1, by omega, by go_num, ((h0.set ((k + m) * 2) _).set ((k + m) * 2 + 1) _).congr fun i _ => prs_step F L (k + m) i, ((hb.setCell (by simp) _).setCell (by simp) _)⟩
          case measure => simp [intOf]; omega
        · have hkm : m = n2 := by omega
          subst hkm
          have o0 : Own wr w2.heap.size ((k + m) * 2) (prs F L) := h0.congr fun i hi => by rw [if_pos hi]
          have r1 := q1'.below hb
          have r2 := q2.below hb
          have b3 := bb.trans (hb.mono bb.size)
          clear h0 q1' q2 bb hb hmk
          go_wp2_with fail
          refine (call_any wr x ao1 k cp1 f1 l1 (by omega) r1).mono ?_
          rintro e w3 ⟨wb, rv, rl, rfl, -, -, -, -, -, -, b4⟩
          have r2' := r2.below b4
          have o1 := o0.below b4 o0.lt
          have b5 := b3.trans (b4.mono b3.size)
          clear r1 r2 o0 b3 b4
          go_wp2_with fail
          refine (call_any w3 x ao2 m cp2 f2 l2 (by omega) r2').mono ?_
          rintro e w4 ⟨wb', rv', rl', rfl, -, -, -, -, -, -, b6⟩
          have o2 := o1.below b6 o1.lt
          have b7 := b5.trans (b6.mono b5.size)
          clear r2' o1 b5 b6
          go_wp2_with fail
          refine (call_any w4 x _ (k + m) (k + m) F L (by omega) (PS.own o2)).mono ?_
          rintro e w5 ⟨wc, vc, lc, rfl, -, -, -, oW, oV, oL, b8⟩
          have o3 := o2.below b8 o2.lt
          have b9 := b7.trans (b8.mono b7.size)
          clear o2 b7 b8
          go_wp2_with fail
          refine (keeps_any w5 x w2.heap.size wc vc lc (k + m) F L (by omega) o3 oW oV oL).mono ?_
          rintro e w6 ⟨rfl, b10⟩
          have b11 := b9.trans (b10.mono b9.size)
          have e1 : Hid ((offs F L x (k + m) : Int) = (offs f1 l1 x k : Int) + (offs f2 l2 x m : Int)) := by
            rw [EF.out, EL.out, offs_cat]; exact Int.natCast_add _ _
          have e2 := offs_le f1 l1 x k
          have e3 := offs_le f2 l2 x m
          clear o3 oW oV oL b9 b10
          go_wp2
          go_ret
          refine ⟨?_, b11⟩
          rw [e1.out]
          simp

end Go.Proofs.Qxb6601551a
