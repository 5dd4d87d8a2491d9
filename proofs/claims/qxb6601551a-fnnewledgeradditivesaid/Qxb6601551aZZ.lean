import Derived.Test.Qxb6601551aLedger
namespace Go.Proofs.Qxb6601551a
open Go.RowKit

theorem prs_step (f : Nat → Int) (l : Nat → Bool) (k i : Nat) :
    (if i = k * 2 + 1 then Value.bool (l k) else if i = k * 2 then Value.int .u64 (f k) else if i < k * 2 then prs f l i else prs (fun _ => 0) (fun _ => false) i) = (if i < (k + 1) * 2 then prs f l i else prs (fun _ => 0) (fun _ => false) i) := by
  by_cases h1 : i = k * 2 + 1
  · subst h1; rw [if_pos rfl, if_pos (by omega), prs_lost]
  · rw [if_neg h1]
    by_cases h2 : i = k * 2
    · subst h2; rw [if_pos rfl, if_pos (by omega), prs_val]
    · rw [if_neg h2]
      by_cases h3 : i < k * 2
      · rw [if_pos h3, if_pos (by omega)]
      · rw [if_neg h3, if_neg (by omega)]

set_option maxHeartbeats 400000 in
theorem zz_any (w : World) (x : Int) (vb lb n : Nat) (f : Nat → Int) (l : Nat → Bool) (hn : n ≤ 2097152) (hv : Own w vb n (fun i => .int .u64 (f i))) (hl : Own w lb n (fun i => .bool (l i))) :
    Calls Try.prog 17 #[.int .i64 x, .slice (some ⟨vb, 0, none⟩) n n, .slice (some ⟨lb, 0, none⟩) n n] w fun e w' => ∃ wb rv rl,
      e = .returned (.tuple #[.slice (some ⟨wb, 0, none⟩) n n, .slice (some ⟨rv, 0, none⟩) n n, .slice (some ⟨rl, 0, none⟩) n n, .int .i64 (offs f l x n)]) ∧ w.heap.size ≤ wb ∧ w.heap.size ≤ rv ∧ w.heap.size ≤ rl ∧
      Own w' wb n (fun _ => .int .i64 x) ∧ Own w' rv n (fun i => .int .u64 (f i)) ∧ Own w' rl n (fun i => .bool (l i)) ∧ Below w.heap.size w w' := by
  have hmk := make_at (Try.underlying41) Try.info43 n hn (by decide)
  have hmv := make_at (Try.underlying33) Try.info29 n hn (by decide)
  have hml := make_at (Try.underlying34) Try.info4 n hn (by decide)
  have hvb := hv.lt
  have hlb := hl.lt
  go_enter Try.func17, Try.ntmps17
  go_wp2
  go_loopw [19] (fun i wr => ∃ k : Nat, k ≤ n ∧ i = .int .i64 k ∧ Own wr w.heap.size (n * 2) (fun i => if i < k * 2 then prs f l i else prs (fun _ => 0) (fun _ => false) i) ∧ Below w.heap.size w wr)
    (fun i _ => n - (intOf i).toNat)
  case atStart =>
    refine ⟨0, Nat.zero_le _, rfl, ?_, ?_⟩
    · exact (Own.made w _ (n * 2) 43).congr fun i _ => by
        rcases Nat.mod_two_eq_zero_or_one i with h | h <;> simp [prs, h]
    · exact (Below.refl _ _).alloc (Nat.le_refl _) _
  case round =>
    obtain ⟨k, hk, rfl, h0, hb⟩ := hrel
    by_cases hlt : k < n
    · have hki : (k : Int) < (n : Int) := by omega
      have d0 := h0.cell (i := k * 2) (by omega)
      have d1 := h0.cell (i := k * 2 + 1) (by omega)
      have z0 := h0.free (k * 2)
      have z1 := h0.free (k * 2 + 1)
      rw [if_neg (by omega), prs_val] at d0
      rw [if_neg (by omega), prs_lost] at d1
      have r0 : wr.cell? ⟨vb, k, none⟩ = some (.int .u64 (f k)) := by rw [hb.cell (p := ⟨vb, k, none⟩) hvb, hv.cell hlt]
      have r1 : wr.cell? ⟨lb, k, none⟩ = some (.bool (l k)) := by rw [hb.cell (p := ⟨lb, k, none⟩) hlb, hl.cell hlt]
      go_wp2
      go_region
      all_goals
        go_wp2
        go_roundw
        case rel => exact ⟨k + 1, by omega, by go_num, ((h0.set (k * 2) _).set (k * 2 + 1) _).drew.congr fun i _ => prs_step f l k i, ((hb.setCell (by simp) _).setCell (by simp) _).drew⟩
        case measure => simp [intOf]; omega
    · obtain rfl : k = n := by omega
      have hR : Own wr w.heap.size (2 * k) (prs f l) := by
        have := h0.congr (f' := prs f l) fun i hi => by rw [if_pos hi]
        rwa [Nat.mul_comm] at this
      clear h0
      have hsz := hR.lt
      go_wp2_with fail
      refine (newLedger_any wr x w.heap.size k f l hn hR).mono ?_
      rintro e w2 ⟨wb, gb, rfl, hwb, hgb, hne, hW, hG, hb2⟩
      have hR2 := hR.below hb2 hsz
      have hwl := hW.lt
      have hgl := hG.lt
      have hrl := hR2.lt
      have hbl := (hb.trans (hb2.mono (by omega)))
      have c1 := hG.cell (i := 1) (by omega)
      simp only [ldg, if_true, if_false, Nat.reduceEqDiff] at c1
      clear hb2 hR
      go_wp2
      go_loopw [55] (fun i wr2 => ∃ m : Nat, m ≤ k ∧ i = .int .i64 m ∧ Own wr2 w2.heap.size k (fun i => if i < m then .int .u64 (f i) else .int .u64 0) ∧ Own wr2 (w2.heap.size + 1) k (fun i => if i < m then .bool (l i) else .bool false) ∧ Below w2.heap.size w2 wr2)
        (fun i _ => k - (intOf i).toNat)
      case atStart =>
        refine ⟨0, Nat.zero_le _, rfl, ?_, ?_, ?_⟩
        · exact ((Own.made w2 #[.int .u64 0] k 29).alloc _).congr fun i _ => by simp [Nat.mod_one]
        · have := (Own.made (w2.alloc (.cells (madeCells #[.int .u64 0] k) 29)) #[.bool false] k 4)
          rw [World.size_alloc] at this
          exact this.congr fun i _ => by simp [Nat.mod_one]
        · exact ((Below.refl _ _).alloc (Nat.le_refl _) _).alloc (by simp) _
      case round =>
        obtain ⟨m, hm, rfl, h0, h1, hb2⟩ := hrel
        by_cases hlt : m < k
        · have hki : (m : Int) < (k : Int) := by omega
          have d0 := h0.cell hlt
          have d1 := h1.cell hlt
          have z0 := h0.free m
          have z1 := h1.free m
          simp only [if_neg (Nat.lt_irrefl m)] at d0 d1
          have g1 : wr.cell? ⟨gb, 1, none⟩ = some (.slice (some ⟨w.heap.size, 0, none⟩) k k) := by rw [hb2.cell (p := ⟨gb, 1, none⟩) hgl, c1]
          have r0 : wr.cell? ⟨w.heap.size, m * 2, none⟩ = some (.int .u64 (f m)) := by rw [hb2.cell (p := ⟨w.heap.size, m * 2, none⟩) hrl, hR2.cell (by omega), prs_val]
          have r1 : wr.cell? ⟨w.heap.size, m * 2 + 1, none⟩ = some (.bool (l m)) := by rw [hb2.cell (p := ⟨w.heap.size, m * 2 + 1, none⟩) hrl, hR2.cell (by omega), prs_lost]
          go_wp2
          go_roundw
          case rel =>
            refine ⟨m + 1, by omega, by go_num, ((h0.set m _).other (by simp) _).congr fun i _ => ?_, ((h1.other (by simp) _).set m _).congr fun i _ => ?_, (hb2.setCell (by simp) _).setCell (by simp) _⟩
            · by_cases e : i = m
              · subst e; simp
              · by_cases e2 : i < m
                · simp [e, e2, Nat.lt_succ_of_lt e2]
                · simp [e, e2, show ¬ i < m + 1 by omega]
            · by_cases e : i = m
              · subst e; simp
              · by_cases e2 : i < m
                · simp [e, e2, Nat.lt_succ_of_lt e2]
                · simp [e, e2, show ¬ i < m + 1 by omega]
          case measure => simp [intOf]; omega
        · have hmk' : m = k := by omega
          subst hmk'
          have g0 := (hG.below hb2 hgl).cell (i := 0) (by omega)
          have g2 := (hG.below hb2 hgl).cell (i := 2) (by omega)
          simp only [ldg, if_true, if_false, Nat.reduceEqDiff] at g0 g2
          go_wp2
          go_quiet (fail)
          go_wp2
          refine bodyPost_ret (v := .tuple #[.slice (some ⟨wb, 0, none⟩) m m, .slice (some ⟨w2.heap.size, 0, none⟩) m m, .slice (some ⟨w2.heap.size + 1, 0, none⟩) m m, .int .i64 (offs f l x m)]) (by simp [results, Try.results17, go_sem]) rfl
            ⟨wb, w2.heap.size, w2.heap.size + 1, rfl, by omega, by omega, by omega, hW.below (below_drewN hb2 _) hwl, Own.congr (show Own (wr.drewN nq) _ _ _ from h0) fun i hi => by simp [hi], Own.congr (show Own (wr.drewN nq) _ _ _ from h1) fun i hi => by simp [hi], hbl.trans ((below_drewN hb2 _).mono (by omega))⟩

end Go.Proofs.Qxb6601551a
