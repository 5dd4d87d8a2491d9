import Derived.Test.Qxb6602238aDoorPlain2
/-
  DERIVED. THE PLAIN LAW OF NUMBERS: (*scan).number's verdict and place are the automaton's.
-/
namespace Go.Proofs.Qxb6602238aDoor
variable {bs : Nat → Int} {n : Nat}

/-- a state in which digits stay: the run passes them all -/
theorem au_digits (st : Int) (hst : ∀ b, isDg b = true → nxt st b = st) (h1 : st ≠ -1) (p : Nat) : au bs n st p = au bs n st (sk isDg bs n p) := by
  have key : ∀ f p, n - p = f → au bs n st p = au bs n st (sk isDg bs n p) := by
    intro f
    induction f with
    | zero => intro p hp; rw [sk_end (by omega)]
    | succ f ih =>
      intro p hp
      have hlt : p < n := by omega
      cases hd : isDg (bs p) with
      | true =>
        rw [sk_yes hlt hd, au_go hlt (by rw [hst _ hd]; exact h1), hst _ hd]
        exact ih (p + 1) (by omega)
      | false => rw [sk_no hd]
  exact key _ p rfl
/-- behind the digits: the end, or no digit -/
theorem sk_at (p : Int → Bool) (i : Nat) : n ≤ sk p bs n i ∨ p (bs (sk p bs n i)) = false := by
  have key : ∀ f i, n - i = f → n ≤ sk p bs n i ∨ p (bs (sk p bs n i)) = false := by
    intro f
    induction f with
    | zero => intro i hi; rw [sk_end (by omega)]; exact .inl (by omega)
    | succ f ih =>
      intro i hi
      cases hd : p (bs i) with
      | true => rw [sk_yes (by omega) hd]; exact ih (i + 1) (by omega)
      | false => rw [sk_no hd]; exact .inr hd
  exact key _ i rfl
theorem sk_lt_iff (p : Int → Bool) (i : Nat) : i < sk p bs n i ↔ i < n ∧ p (bs i) = true := by
  constructor
  · intro h
    rcases Nat.lt_or_ge i n with hlt | hge
    · cases hd : p (bs i) with
      | true => exact ⟨hlt, rfl⟩
      | false => rw [sk_no hd] at h; omega
    · rw [sk_end hge] at h; omega
  · rintro ⟨h1, h2⟩
    rw [sk_yes h1 h2]
    exact Nat.lt_of_lt_of_le (Nat.lt_succ_self i) (sk_ge p bs n (i + 1))

theorem dg_not (b : Int) (h : isDg b = true) : b ≠ 43 ∧ b ≠ 45 ∧ b ≠ 46 ∧ b ≠ 69 ∧ b ≠ 101 := by
  simp [isDg] at h
  omega

/-- state 8 at its end -/
theorem au8 (p : Nat) : au bs n 8 p = (8, sk isDg bs n p) := by
  rw [au_digits 8 (fun b h => by simp [nxt, h]) (by decide)]
  rcases sk_at (bs := bs) (n := n) isDg p with h | h
  · exact au_end h
  · exact au_stop (by simp [nxt, h])
/-- states 6, 7: what follows 'e', what follows its sign -/
theorem au7 (p : Nat) : au bs n 7 p = (if p < sk isDg bs n p then 8 else 7, sk isDg bs n p) := by
  by_cases h : p < sk isDg bs n p
  · obtain ⟨h1, h2⟩ := (sk_lt_iff isDg p).1 h
    rw [if_pos h, sk_yes h1 h2, ← au8, au_go h1 (by simp [nxt, h2])]
    simp [nxt, h2]
  · have he : sk isDg bs n p = p := by have := sk_ge isDg bs n p; omega
    rw [if_neg h, he]
    rcases Nat.lt_or_ge p n with hlt | hge
    · have hd : isDg (bs p) = false := by
        cases hd : isDg (bs p) with
        | false => rfl
        | true => exact absurd ((sk_lt_iff isDg p).2 ⟨hlt, hd⟩) h
      exact au_stop (by simp [nxt, hd])
    · exact au_end hge
theorem au6_sign (p : Nat) (h : (atB bs n p 43 || atB bs n p 45) = true) : au bs n 6 p = au bs n 7 (p + 1) := by
  have hb : p < n ∧ (bs p = 43 ∨ bs p = 45) := by
    simp [atB] at h
    omega
  rw [au_go hb.1 (by simp [nxt, hb.2])]
  simp [nxt, hb.2]
theorem au6_bare (p : Nat) (h : (atB bs n p 43 || atB bs n p 45) = false) : au bs n 6 p = (if p < sk isDg bs n p then 8 else 6, sk isDg bs n p) := by
  rcases Nat.lt_or_ge p n with hlt | hge
  · have hb : ¬ (bs p = 43 ∨ bs p = 45) := by
      simp [atB, hlt] at h
      omega
    by_cases hs : p < sk isDg bs n p
    · obtain ⟨h1, h2⟩ := (sk_lt_iff isDg p).1 hs
      rw [if_pos hs, sk_yes h1 h2, ← au8, au_go h1 (by simp [nxt, h2, hb])]
      simp [nxt, h2, hb]
    · have hd : isDg (bs p) = false := by
        cases hd : isDg (bs p) with
        | false => rfl
        | true => exact absurd ((sk_lt_iff isDg p).2 ⟨hlt, hd⟩) hs
      rw [if_neg hs, sk_no hd]
      exact au_stop (by simp [nxt, hd, hb])
  · rw [sk_end hge, if_neg (by omega)]
    exact au_end hge

/-- the run's verdict and place -/
def vp (r : Int × Nat) : Bool × Nat := (acc r.1, r.2)

/-- the exponent: from a state that takes 'e' and nothing else here -/
theorem au_exp (st : Int) (i : Nat) (hacc : acc st = true) (he : ∀ b, (b = 101 ∨ b = 69) → nxt st b = 6) (hno : i < n → ¬ (bs i = 101 ∨ bs i = 69) → nxt st (bs i) = -1) :
    vp (au bs n st i) = expF bs n i := by
  unfold expF
  rcases Nat.lt_or_ge i n with hlt | hge
  · by_cases hb : bs i = 101 ∨ bs i = 69
    · have hA : (atB bs n i 101 || atB bs n i 69) = true := by simp [atB, hlt]; exact hb
      rw [if_pos hA, au_go hlt (by rw [he _ hb]; decide), he _ hb]
      cases hS : (atB bs n (i + 1) 43 || atB bs n (i + 1) 45) with
      | true =>
        rw [if_pos rfl, au6_sign _ hS, au7]
        show (acc (if i + 1 + 1 < sk isDg bs n (i + 1 + 1) then 8 else 7), sk isDg bs n (i + 1 + 1)) = _
        by_cases h : i + 2 < sk isDg bs n (i + 2)
        · rw [if_pos h, decide_eq_true h]; rfl
        · rw [if_neg h, decide_eq_false h]; rfl
      | false =>
        rw [if_neg (by decide), au6_bare _ hS]
        show (acc (if i + 1 < sk isDg bs n (i + 1) then 8 else 6), sk isDg bs n (i + 1)) = _
        by_cases h : i + 1 < sk isDg bs n (i + 1)
        · rw [if_pos h, decide_eq_true h]; rfl
        · rw [if_neg h, decide_eq_false h]; rfl
    · have hA : (atB bs n i 101 || atB bs n i 69) = false := by simp [atB, hlt]; omega
      rw [if_neg (by rw [hA]; decide), au_stop (hno hlt hb)]
      show (acc st, i) = _
      rw [hacc]
  · have hA : (atB bs n i 101 || atB bs n i 69) = false := by simp [atB]; omega
    rw [if_neg (by rw [hA]; decide), au_end hge]
    show (acc st, i) = _
    rw [hacc]

/-- the fraction: from the state behind '0' or behind the digits -/
theorem au_frac (st : Int) (i : Nat) (hst : st = 2 ∨ (st = 3 ∧ (n ≤ i ∨ isDg (bs i) = false))) : vp (au bs n st i) = fracF bs n i := by
  unfold fracF
  have hacc : acc st = true := by rcases hst with rfl | ⟨rfl, _⟩ <;> rfl
  have he : ∀ b, (b = 101 ∨ b = 69) → nxt st b = 6 := by
    intro b hb
    rcases hst with rfl | ⟨rfl, _⟩
    · have h46 : ¬ b = 46 := by omega
      simp [nxt, hb, h46]
    · have h46 : ¬ b = 46 := by omega
      have hd : isDg b = false := by simp [isDg]; omega
      simp [nxt, hb, h46, hd]
  rcases Nat.lt_or_ge i n with hlt | hge
  · by_cases h46 : bs i = 46
    · have hA : atB bs n i 46 = true := by simp [atB, hlt, h46]
      have hn4 : nxt st (bs i) = 4 := by
        rw [h46]
        rcases hst with rfl | ⟨rfl, _⟩ <;> rfl
      rw [if_pos hA, au_go hlt (by rw [hn4]; decide), hn4]
      by_cases hs : i + 1 < sk isDg bs n (i + 1)
      · obtain ⟨h1, h2⟩ := (sk_lt_iff isDg (i + 1)).1 hs
        rw [if_pos hs, au_go h1 (by simp [nxt, h2]), show nxt 4 (bs (i + 1)) = 5 by simp [nxt, h2], sk_yes h1 h2,
          au_digits 5 (fun b h => by simp [nxt, h]) (by decide)]
        refine au_exp 5 _ rfl (fun b hb => ?_) (fun hl hb => ?_)
        · have hd : isDg b = false := by simp [isDg]; omega
          simp [nxt, hb, hd]
        · have hd : isDg (bs (sk isDg bs n (i + 1 + 1))) = false := by
            rcases sk_at (bs := bs) (n := n) isDg (i + 1 + 1) with h | h
            · omega
            · exact h
          simp [nxt, hb, hd]
      · have hq : sk isDg bs n (i + 1) = i + 1 := by have := sk_ge isDg bs n (i + 1); omega
        rw [if_neg hs, hq]
        rcases Nat.lt_or_ge (i + 1) n with h1 | h1
        · have hd : isDg (bs (i + 1)) = false := by
            cases hd : isDg (bs (i + 1)) with
            | false => rfl
            | true => exact absurd ((sk_lt_iff isDg (i + 1)).2 ⟨h1, hd⟩) hs
          rw [au_stop (by simp [nxt, hd])]
          rfl
        · rw [au_end h1]
          rfl
    · have hA : atB bs n i 46 = false := by simp [atB, h46]
      rw [if_neg (by rw [hA]; decide)]
      refine au_exp st i hacc he (fun hl hb => ?_)
      rcases hst with rfl | ⟨rfl, hd⟩
      · simp [nxt, h46, hb]
      · have hd' : isDg (bs i) = false := by rcases hd with h | h; omega; exact h
        simp [nxt, h46, hb, hd']
  · have hA : atB bs n i 46 = false := by simp [atB]; omega
    rw [if_neg (by rw [hA]; decide)]
    exact au_exp st i hacc he (fun hl => by omega)

/-- the whole part: from the start, or behind the minus -/
theorem au_int (st : Int) (i : Nat) (hst : (st = 0 ∧ atB bs n i 45 = false) ∨ st = 1) : vp (au bs n st i) = intF bs n i := by
  unfold intF
  have hacc : acc st = false := by rcases hst with ⟨rfl, _⟩ | rfl <;> rfl
  rcases Nat.lt_or_ge i n with hlt | hge
  · by_cases h48 : bs i = 48
    · have hA : atB bs n i 48 = true := by simp [atB, hlt, h48]
      have hn2 : nxt st (bs i) = 2 := by rw [h48]; rcases hst with ⟨rfl, _⟩ | rfl <;> rfl
      rw [if_pos hA, au_go hlt (by rw [hn2]; decide), hn2]
      exact au_frac 2 _ (.inl rfl)
    · have hA : atB bs n i 48 = false := by simp [atB, h48]
      rw [if_neg (by rw [hA]; decide)]
      cases hd : isDg (bs i) with
      | true =>
        have hs := (sk_lt_iff (bs := bs) (n := n) isDg i).2 ⟨hlt, hd⟩
        have h45 := (dg_not _ hd).2.1
        have hn3 : nxt st (bs i) = 3 := by rcases hst with ⟨rfl, _⟩ | rfl <;> simp [nxt, h48, hd, h45]
        rw [if_pos hs, au_go hlt (by rw [hn3]; decide), hn3, sk_yes hlt hd, au_digits 3 (fun b h => by simp [nxt, h]) (by decide)]
        exact au_frac 3 _ (.inr ⟨rfl, sk_at isDg (i + 1)⟩)
      | false =>
        rw [sk_no hd, if_neg (Nat.lt_irrefl i), au_stop ?_]
        · show (acc st, i) = _
          rw [hacc]
        · rcases hst with ⟨rfl, h⟩ | rfl
          · have h45 : ¬ bs i = 45 := by simp [atB, hlt] at h; exact h
            simp [nxt, h45, h48, hd]
          · simp [nxt, h48, hd]
  · have hA : atB bs n i 48 = false := by simp [atB]; omega
    rw [if_neg (by rw [hA]; decide), sk_end hge, if_neg (Nat.lt_irrefl i), au_end hge]
    show (acc st, i) = _
    rw [hacc]

/-- THE LAW -/
theorem au_num (i : Nat) : vp (au bs n 0 i) = numF bs n i := by
  unfold numF
  cases h : atB bs n i 45 with
  | true =>
    have hb : i < n ∧ bs i = 45 := by simpa [atB] using h
    rw [if_pos rfl, au_go hb.1 (by rw [hb.2]; decide), show nxt 0 (bs i) = 1 by rw [hb.2]; rfl]
    exact au_int 1 _ (.inr rfl)
  | false =>
    rw [if_neg (by decide)]
    exact au_int 0 _ (.inl ⟨rfl, h⟩)

end Go.Proofs.Qxb6602238aDoor
