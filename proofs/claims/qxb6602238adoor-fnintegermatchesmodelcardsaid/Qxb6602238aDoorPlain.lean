/-
  DERIVED. The plain mathematics of the scan: no Go in sight.
-/
namespace Go.Proofs.Qxb6602238aDoor

/-- the bytes of JSON whitespace, of digits -/
def isSp (b : Int) : Bool := b == 32 || b == 9 || b == 10 || b == 13
def isDg (b : Int) : Bool := decide (48 ≤ b) && decide (b ≤ 57)

/-- from i on, for at most f bytes, as long as p says yes -/
def skip (p : Int → Bool) (bs : Nat → Int) : Nat → Nat → Nat
  | 0, i => i
  | f + 1, i => if p (bs i) = true then skip p bs f (i + 1) else i
/-- from i on, up to n, as long as p says yes -/
def sk (p : Int → Bool) (bs : Nat → Int) (n i : Nat) : Nat := skip p bs (n - i) i
theorem sk_end {p : Int → Bool} {bs : Nat → Int} {n i : Nat} (h : n ≤ i) : sk p bs n i = i := by
  unfold sk
  rw [show n - i = 0 by omega]
  rfl
theorem sk_yes {p : Int → Bool} {bs : Nat → Int} {n i : Nat} (h : i < n) (hp : p (bs i) = true) : sk p bs n i = sk p bs n (i + 1) := by
  unfold sk
  rw [show n - i = (n - (i + 1)) + 1 by omega]
  show (if p (bs i) = true then _ else _) = _
  rw [if_pos hp]
theorem sk_no {p : Int → Bool} {bs : Nat → Int} {n i : Nat} (hp : p (bs i) = false) : sk p bs n i = i := by
  unfold sk
  cases n - i with
  | zero => rfl
  | succ f =>
    show (if p (bs i) = true then _ else _) = _
    rw [if_neg (by rw [hp]; decide)]
theorem skip_bd (p : Int → Bool) (bs : Nat → Int) (f i : Nat) : i ≤ skip p bs f i ∧ skip p bs f i ≤ i + f := by
  induction f generalizing i with
  | zero => exact ⟨Nat.le_refl _, Nat.le_refl _⟩
  | succ f ih =>
    show i ≤ (if p (bs i) = true then _ else _) ∧ (if p (bs i) = true then _ else _) ≤ _
    split
    · have := ih (i + 1); omega
    · omega
theorem sk_ge (p : Int → Bool) (bs : Nat → Int) (n i : Nat) : i ≤ sk p bs n i := (skip_bd p bs _ i).1
theorem sk_le (p : Int → Bool) (bs : Nat → Int) (n i : Nat) (h : i ≤ n) : sk p bs n i ≤ n := by
  have := (skip_bd p bs (n - i) i).2
  unfold sk
  omega

/-- the byte at i, if there is one, is b -/
def atB (bs : Nat → Int) (n i : Nat) (b : Int) : Bool := decide (i < n) && bs i == b

/-- (*scan).number from i on: its verdict, and where it stops: the exponent, the fraction, the whole -/
def expF (bs : Nat → Int) (n i : Nat) : Bool × Nat :=
  if (atB bs n i 101 || atB bs n i 69) = true then
    (decide ((if (atB bs n (i + 1) 43 || atB bs n (i + 1) 45) = true then i + 2 else i + 1) < sk isDg bs n (if (atB bs n (i + 1) 43 || atB bs n (i + 1) 45) = true then i + 2 else i + 1)),
      sk isDg bs n (if (atB bs n (i + 1) 43 || atB bs n (i + 1) 45) = true then i + 2 else i + 1))
  else (true, i)
def fracF (bs : Nat → Int) (n i : Nat) : Bool × Nat :=
  if atB bs n i 46 = true then
    (if i + 1 < sk isDg bs n (i + 1) then expF bs n (sk isDg bs n (i + 1)) else (false, sk isDg bs n (i + 1)))
  else expF bs n i
def intF (bs : Nat → Int) (n i : Nat) : Bool × Nat :=
  if atB bs n i 48 = true then fracF bs n (i + 1)
  else if i < sk isDg bs n i then fracF bs n (sk isDg bs n i) else (false, sk isDg bs n i)
def numF (bs : Nat → Int) (n i : Nat) : Bool × Nat := intF bs n (if atB bs n i 45 = true then i + 1 else i)
theorem atB_lt {bs : Nat → Int} {n i : Nat} {b : Int} (h : atB bs n i b = true) : i < n := by
  unfold atB at h
  simp at h
  exact h.1

end Go.Proofs.Qxb6602238aDoor
