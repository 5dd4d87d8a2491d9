import Derived.Test.Qxb6601551aDiffers
namespace Go.Proofs.Qxb6601551a
open Go.RowKit

/-- cell i of a row of (value, lost) pairs -/
def prs (f : Nat → Int) (l : Nat → Bool) (i : Nat) : Value := if i % 2 = 0 then .int .u64 (f (i / 2)) else .bool (l (i / 2))
/-- how many of the first n readings are kept and differ from x -/
def offs (f : Nat → Int) (l : Nat → Bool) (x : Int) : Nat → Nat
  | 0 => 0
  | n + 1 => offs f l x n + (if (!l n && wrap64 (f n) != x) = true then 1 else 0)
theorem offs_le (f : Nat → Int) (l : Nat → Bool) (x : Int) (n : Nat) : offs f l x n ≤ n := by
  induction n with
  | zero => exact Nat.le_refl _
  | succ n ih => unfold offs; split <;> omega

theorem Try.info2 : (Try.prog.info? 2).map (fun i => (i.zero, i.size, i.bytes)) = some (some (.int .i64 0), 1, 8) := by kernel_rfl
theorem Try.info29 : (Try.prog.info? 29).map (fun i => (i.zero, i.size, i.bytes)) = some (some (.int .u64 0), 1, 8) := by kernel_rfl
theorem Try.info4 : (Try.prog.info? 4).map (fun i => (i.zero, i.size, i.bytes)) = some (some (.bool false), 1, 1) := by kernel_rfl
theorem Try.info31 : (Try.prog.info? 31).map (fun i => (i.zero, i.size, i.bytes)) = some (some (.agg #[.int .u64 0, .bool false]), 2, 16) := by kernel_rfl
theorem Try.info43 : (Try.prog.info? 43).map (fun i => (i.zero, i.size, i.bytes)) = some (some (.agg #[.int .u64 0, .bool false]), 2, 16) := by kernel_rfl

theorem make_at {t e : TypeId} {z : Value} {s b : Nat} (ht : Try.prog.underlying t = some (.slice e)) (hi : (Try.prog.info? e).map (fun i => (i.zero, i.size, i.bytes)) = some (some z, s, b))
    (n : Nat) (hn : n ≤ 2097152) (hb : b ≤ 16) (w : World) :
    (Instr.makeSlice t (.int .i64 (n : Int)) (.int .i64 (n : Int))).run Try.prog w = .ok (.slice (some ⟨w.heap.size, 0, none⟩) n n) (w.alloc (.cells (madeCells z.cells (n * s)) e)) := by
  obtain ⟨i, hi, hz, hs, hbb⟩ := info_parts hi
  have hle : b * n ≤ 16 * 2097152 := Nat.mul_le_mul hb hn
  have hbi : (i.bytes : Int) * (n : Int) ≤ 281474976710656 := by
    have h : ((b * n : Nat) : Int) ≤ 281474976710656 := by omega
    rw [Int.natCast_mul] at h
    rw [hbb]; exact h
  have := run_make w t e i z ht hi hz .i64 .i64 (n : Int) (n : Int) (by omega) (by omega) hbi (by omega)
  rw [hs] at this
  simpa using this

/-- the ledger's three cells -/
def ldg (wb rb n : Nat) (o : Nat) (i : Nat) : Value := if i = 0 then .slice (some ⟨wb, 0, none⟩) n n else if i = 1 then .slice (some ⟨rb, 0, none⟩) n n else .int .i64 o

theorem prs_val (f : Nat → Int) (l : Nat → Bool) (k : Nat) : prs f l (k * 2) = .int .u64 (f k) := by simp [prs]
theorem prs_lost (f : Nat → Int) (l : Nat → Bool) (k : Nat) : prs f l (k * 2 + 1) = .bool (l k) := by
  have h1 : (k * 2 + 1) % 2 = 1 := by omega
  have h2 : (k * 2 + 1) / 2 = k := by omega
  simp [prs, h1, h2]

set_option maxHeartbeats 400000 in
theorem newLedger_any (w : World) (x : Int) (rb n : Nat) (f : Nat → Int) (l : Nat → Bool) (hn : n ≤ 2097152) (hown : Own w rb (2 * n) (prs f l)) :
    Calls Try.prog 19 #[.int .i64 x, .slice (some ⟨rb, 0, none⟩) n n] w fun e w' => ∃ wb lb, e = .returned (.pointer (some ⟨lb, 0, none⟩)) ∧ w.heap.size ≤ wb ∧ w.heap.size ≤ lb ∧ lb ≠ wb ∧
      Own w' wb n (fun _ => .int .i64 x) ∧ Own w' lb 3 (ldg wb rb n (offs f l x n)) ∧ Below w.heap.size w w' := by
  have hmk := make_at (Try.underlying32) Try.info2 n hn (by decide)
  have hrb := hown.lt
  go_enter Try.func19, Try.ntmps19
  go_wp2
  go_loopw [18] (fun i wr => ∃ k : Nat, k ≤ n ∧ i = .int .i64 k ∧ Own wr w.heap.size n (fun i => if i < k then .int .i64 x else .int .i64 0) ∧ Own wr (w.heap.size + 1) 3 (ldg w.heap.size rb n (offs f l x k)) ∧ Below w.heap.size w wr)
    (fun i _ => n - (intOf i).toNat)
  case atStart =>
    refine ⟨0, Nat.zero_le _, rfl, ?_, ?_, ?_⟩
    · have := (Own.made w #[.int .i64 0] n 2).alloc (.cells #[.slice (some ⟨w.heap.size, 0, none⟩) n n, .slice (some ⟨rb, 0, none⟩) n n, .int .i64 0] 47)
      exact this.congr fun i _ => by simp [Nat.mod_one]
    · have := Own.new (w.alloc (.cells (madeCells #[.int .i64 0] n) 2)) #[.slice (some ⟨w.heap.size, 0, none⟩) n n, .slice (some ⟨rb, 0, none⟩) n n, .int .i64 0] 47
      rw [World.size_alloc] at this
      exact this.congr fun i hi => by
        match i, hi with
        | 0, _ => rfl
        | 1, _ => rfl
        | 2, _ => rfl
    · exact ((Below.refl _ _).alloc (Nat.le_refl _) _).alloc (by simp) _
  case round =>
    obtain ⟨k, hk, rfl, h0, h1, hb⟩ := hrel
    by_cases hlt : k < n
    · have hki : (k : Int) < (n : Int) := by omega
      have c0 := h1.cell (i := 0) (by omega)
      have c1 := h1.cell (i := 1) (by omega)
      have c2 := h1.cell (i := 2) (by omega)
      have z2 := h1.free 2
      have d0 := h0.cell hlt
      have dz := h0.free k
      simp only [ldg, if_true, if_neg (Nat.lt_irrefl k), Nat.reduceEqDiff, if_false] at c0 c1 c2 d0
      have r0 : wr.cell? ⟨rb, k * 2, none⟩ = some (.int .u64 (f k)) := by rw [hb.cell (p := ⟨rb, k * 2, none⟩) hrb, hown.cell (by omega), prs_val]
      have r1 : wr.cell? ⟨rb, k * 2 + 1, none⟩ = some (.bool (l k)) := by rw [hb.cell (p := ⟨rb, k * 2 + 1, none⟩) hrb, hown.cell (by omega), prs_lost]
      obtain ⟨d, hd⟩ : ∃ d, d = (!l k && wrap64 (f k) != x) := ⟨_, rfl⟩
      have HD : Hid (offs f l x (k + 1) = offs f l x k + (if d = true then 1 else 0)) := by rw [hd]; rfl
      have hol := offs_le f l x k
      go_wp2_with fail
      have g0 := h0.set k (.int .i64 x)
      have g1 := h1.other (a := ⟨w.heap.size, k, none⟩) (by simp) (.int .i64 x)
      have gb := hb.setCell (p := ⟨w.heap.size, k, none⟩) (Nat.le_refl _) (.int .i64 x)
      have hdif := differs_any (wr.setCell ⟨w.heap.size, k, none⟩ (.int .i64 x)) (w.heap.size + 1) w.heap.size rb n k hlt (f k) x (l k) (g1.cell (i := 0) (by omega)) (g1.cell (i := 1) (by omega))
        (by rw [gb.cell (p := ⟨rb, k * 2, none⟩) hrb, hown.cell (by omega), prs_val]) (by rw [gb.cell (p := ⟨rb, k * 2 + 1, none⟩) hrb, hown.cell (by omega), prs_lost]) (by rw [g0.cell hlt]; simp)
      rw [← hd] at hdif
      clear hd
      refine hdif.mono ?_
      rintro e w1 ⟨rfl, nq, hw1⟩
      have k0 : Own w1 w.heap.size n (fun i => if i < k + 1 then .int .i64 x else .int .i64 0) := by
        rw [hw1]
        exact Own.congr (show Own ((wr.setCell ⟨w.heap.size, k, none⟩ (.int .i64 x)).drewN nq) w.heap.size n _ from g0) fun i hi => by
          by_cases e : i = k
          · subst e; simp
          · by_cases e2 : i < k
            · simp [e, e2, Nat.lt_succ_of_lt e2]
            · simp [e, e2, show ¬ i < k + 1 by omega]
      have k1 : Own w1 (w.heap.size + 1) 3 (ldg w.heap.size rb n (offs f l x k)) := by rw [hw1]; exact g1
      have kb : Below w.heap.size w w1 := by rw [hw1]; exact below_drewN gb nq
      clear hw1 hdif g0 g1 gb h0 h1 hb c0 c1 c2 z2 d0 dz r0 r1
      have c2 := k1.cell (i := 2) (by omega)
      have z2 := k1.free 2
      simp only [ldg, if_false, Nat.reduceEqDiff] at c2
      cases d with
      | false =>
        go_wp2
        go_roundw
        case rel => exact ⟨k + 1, by omega, by go_num, k0, by rw [HD.out]; exact k1, kb⟩
        case measure => simp [intOf]; omega
      | true =>
        go_wp2
        go_roundw
        case rel =>
          refine ⟨k + 1, by omega, by go_num, k0.other (by simp) _, (k1.set 2 _).congr ?_, kb.setCell (by simp) _⟩
          intro i hi
          match i, hi with
          | 0, _ => rfl
          | 1, _ => rfl
          | 2, _ => simp [ldg, HD.out]
        case measure => simp [intOf]; omega
    · obtain rfl : k = n := by omega
      go_wp2
      go_ret
      exact ⟨w.heap.size, w.heap.size + 1, rfl, Nat.le_refl _, by omega, by omega, h0.congr fun i hi => by simp [hi], h1, hb⟩

end Go.Proofs.Qxb6601551a
