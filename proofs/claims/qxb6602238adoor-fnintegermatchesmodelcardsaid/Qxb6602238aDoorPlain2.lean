import Derived.Test.Qxb6602238aDoorPlain
/-
  DERIVED. The JSON number automaton as plain functions.
-/
namespace Go.Proofs.Qxb6602238aDoor

/-- the automaton's transition table -/
def nxt (st b : Int) : Int :=
  if st = 0 then (if b = 45 then 1 else if b = 48 then 2 else if isDg b = true then 3 else -1)
  else if st = 1 then (if b = 48 then 2 else if isDg b = true then 3 else -1)
  else if st = 2 then (if b = 46 then 4 else if b = 101 ∨ b = 69 then 6 else -1)
  else if st = 3 then (if isDg b = true then 3 else if b = 46 then 4 else if b = 101 ∨ b = 69 then 6 else -1)
  else if st = 4 then (if isDg b = true then 5 else -1)
  else if st = 5 then (if isDg b = true then 5 else if b = 101 ∨ b = 69 then 6 else -1)
  else if st = 6 then (if b = 43 ∨ b = 45 then 7 else if isDg b = true then 8 else -1)
  else (if isDg b = true then 8 else -1)
/-- its accepting states -/
def acc (st : Int) : Bool := st == 2 || st == 3 || st == 5 || st == 8
/-- its run -/
def auto (bs : Nat → Int) : Nat → Int → Nat → Int × Nat
  | 0, st, p => (st, p)
  | f + 1, st, p => if nxt st (bs p) = -1 then (st, p) else auto bs f (nxt st (bs p)) (p + 1)
def au (bs : Nat → Int) (n : Nat) (st : Int) (p : Nat) : Int × Nat := auto bs (n - p) st p
theorem au_end {bs : Nat → Int} {n : Nat} {st : Int} {p : Nat} (h : n ≤ p) : au bs n st p = (st, p) := by
  unfold au
  rw [show n - p = 0 by omega]
  rfl
theorem au_stop {bs : Nat → Int} {n : Nat} {st : Int} {p : Nat} (h : nxt st (bs p) = -1) : au bs n st p = (st, p) := by
  unfold au
  cases n - p with
  | zero => rfl
  | succ f =>
    show (if nxt st (bs p) = -1 then _ else _) = _
    rw [if_pos h]
theorem au_go {bs : Nat → Int} {n : Nat} {st : Int} {p : Nat} (hp : p < n) (h : ¬ nxt st (bs p) = -1) : au bs n st p = au bs n (nxt st (bs p)) (p + 1) := by
  unfold au
  rw [show n - p = (n - (p + 1)) + 1 by omega]
  show (if nxt st (bs p) = -1 then _ else _) = _
  rw [if_neg h]
theorem nxt_range (st b : Int) : nxt st b = -1 ∨ (0 ≤ nxt st b ∧ nxt st b ≤ 8) := by
  unfold nxt
  split
  · split
    · exact .inr (by omega)
    · split
      · exact .inr (by omega)
      · split <;> omega
  · split
    · split
      · exact .inr (by omega)
      · split <;> omega
    · split
      · split
        · exact .inr (by omega)
        · split <;> omega
      · split
        · split
          · exact .inr (by omega)
          · split
            · exact .inr (by omega)
            · split <;> omega
        · split
          · split <;> omega
          · split
            · split
              · exact .inr (by omega)
              · split <;> omega
            · split
              · split
                · exact .inr (by omega)
                · split <;> omega
              · split <;> omega

end Go.Proofs.Qxb6602238aDoor
